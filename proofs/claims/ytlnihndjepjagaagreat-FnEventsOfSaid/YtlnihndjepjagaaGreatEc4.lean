/- Words, and proved steps, on which the proof leans. -/
import Derived.Test.YtlnihndjepjagaaGreatEc3
set_option linter.unusedVariables false
set_option linter.unusedSimpArgs false
namespace Go.Proofs.YtlnihndjepjagaaGreat
open Go Go.RowKit Gw Tryz
open Go.Value renaming int → vI, bool → vB, slice → vS, pointer → vP, agg → vA, tuple → vT

set_option maxHeartbeats 16000000 in
theorem itInsertW (R : HP) (K : Type) (O : KO K) (tb sb : Nat) (cnt : Int) (sc : List Value) (W : Tr K) (it jt vt : TypeId) (ix jx vx : Value) (kb ke : K) (hW : TOk O R W ∧ LocT O W ∧ blackT W) (hb : O.Val R (Value.iface it ix) kb) (he : O.Val R (Value.iface jt jx) ke) (hs : srt O (ino W)) :
    Tri Tryz.prog 157 #[(vQ tb), (vA #[((Value.iface it ix)), ((Value.iface jt jx))]), ((Value.iface vt vx))] R [cl tb 185 [(vQ (rt sb W)), (vI .i64 cnt), (vQ sb)], tr sb sb W, clf sb 182 sc] (fun v__ post__ => ∃ (W' : Tr K) (L1 L2 : List (ND K)) (z : ND K), v__ = (vT #[]) ∧ post__ = [cl tb 185 [(vQ (rt sb W')), (vI .i64 (IntKind.i64.wrap (cnt + 1))), (vQ sb)], tr sb sb W', clf sb 182 sc] ∧ (TOk O R W' ∧ LocT O W' ∧ blackT W') ∧ (ino W' = L1 ++ z.er :: L2) ∧ (ino W = L1 ++ L2) ∧ (z.b = (Value.iface it ix) ∧ z.e = (Value.iface jt jx) ∧ z.v = (Value.iface vt vx) ∧ z.kb = kb ∧ z.ke = ke) ∧ (srt O (ino W')) ∧ (∀ x ∈ L1, ¬ bef O kb ke x) ∧ (∀ y ∈ L2, bef O kb ke y)) := by
 have hW1 := hW
 refine Tri.into (n := 165) (al := [(vQ tb), (vA #[((Value.iface it ix)), ((Value.iface jt jx))]), ((Value.iface vt vx))]) func157 rfl ntmps157 rfl rfl fun w F H => ?_
 refine cR fun _ hK1_ => ?_
 refine S_list (T_box (v := (vA #[((Value.iface it ix)), ((Value.iface jt jx))])) rfl H ?_)
 intro b2_ w3_ S5_ H4_
 have S6_ := Same.trans (Same.refl w) S5_
 refine wn (hK1_ _ _ ?_)
 refine cR fun _ hK7_ => ?_
 refine sm (vQ tb) ?_
 refine sv (v := (vQ tb)) (by kernel_rfl) ?_
 refine sv (v := (vP (some ⟨tb, 2, none⟩))) (by kernel_rfl) ?_
 refine sv (v := (vQ sb)) (x_load1 rfl underlying173 rfl ((Holds.rd H4_ 2 rfl) 2 (vQ sb) rfl)) ?_
 refine sv (v := (vQ sb)) (x_assign rfl) ?_
 refine wn (hK7_ _ _ ?_)
 refine cR fun _ hK8_ => ?_
 refine sm (vQ tb) ?_
 refine sv (v := (vA #[((Value.iface it ix)), ((Value.iface jt jx))])) (x_loadN (vs := [((Value.iface it ix)), ((Value.iface jt jx))]) rfl underlying177 rfl z177 rfl (Rd.cells (Holds.rd H4_ 0 rfl) 0 rfl)) ?_
 refine sm ((Value.iface vt vx)) ?_
 refine S_list (T_callW (al := [(vQ tb), (vA #[((Value.iface it ix)), ((Value.iface jt jx))]), ((Value.iface vt vx))]) rfl rfl cb168 (Calls.into (n := 26) func168 rfl ntmps168 rfl rfl ?_))
 refine cR fun _ hK9_ => ?_
 refine S_list (T_box (v := (vA #[((Value.iface it ix)), ((Value.iface jt jx))])) rfl H4_ ?_)
 intro b10_ w11_ S13_ H12_
 have S14_ := Same.trans S6_ S13_
 refine sv (v := (vP none)) (x_assign rfl) ?_
 refine wn (hK9_ _ _ ?_)
 refine C_seq (fun _ hK15_ => ?_)
 refine A_start (S := fun w => Rd b10_ [((Value.iface it ix)), ((Value.iface jt jx))] w ∧ Rd tb [(vQ (rt sb W)), (vI .i64 cnt), (vQ sb)] w ∧ RtRd w (rt sb W) (rmx W) ∧ Sub R (hp w)) (N := 20) foll rfl rfl ?_
 have H16_ := Holds.drew_ H12_
 have hq17_ := And.intro (Holds.rd H16_ 0 rfl) (And.intro (Holds.rd H16_ 3 rfl) (And.intro (Holds.tr_rd H16_ 4 rfl 5 rfl) ((Holds.ro_at H16_ 2 rfl))))
 refine A_tk 0 (v := (vA #[((Value.iface it ix)), ((Value.iface jt jx))])) rfl (by kernel_rfl) (fun w hS => x_loadN (vs := [((Value.iface it ix)), ((Value.iface jt jx))]) rfl underlying177 rfl z177 rfl (Rd.cells hS.1 0 rfl)) hq17_ ?_
 refine A_tk 1 (v := ((Value.iface vt vx))) rfl (by kernel_rfl) (fun w hS => x_move rfl) hq17_ ?_
 refine A_tk 2 (v := (vA #[((Value.iface it ix)), ((Value.iface jt jx)), ((Value.iface vt vx))])) rfl (by kernel_rfl) (fun w hS => by kernel_rfl) hq17_ ?_
 refine A_tk 3 (v := (vP (some ⟨b10_, 1, none⟩))) rfl (by kernel_rfl) (fun w hS => by kernel_rfl) hq17_ ?_
 refine A_tk 4 (v := ((Value.iface jt jx))) rfl (by kernel_rfl) (fun w hS => x_load1 rfl underlying175 rfl (hS.1 1 ((Value.iface jt jx)) rfl)) hq17_ ?_
 refine A_tk 5 (v := (vQ tb)) rfl (by kernel_rfl) (fun w hS => x_move rfl) hq17_ ?_
 refine A_tk 6 (v := (vQ tb)) rfl (by kernel_rfl) (fun w hS => by kernel_rfl) hq17_ ?_
 refine A_tk 7 (v := (vP (some ⟨tb, 2, none⟩))) rfl (by kernel_rfl) (fun w hS => by kernel_rfl) hq17_ ?_
 refine A_tk 8 (v := (vQ sb)) rfl (by kernel_rfl) (fun w hS => x_load1 rfl underlying173 rfl (hS.2.1 2 (vQ sb) rfl)) hq17_ ?_
 refine A_tk 9 (v := (vQ tb)) rfl (by kernel_rfl) (fun w hS => x_move rfl) hq17_ ?_
 refine A_tk 10 (v := (vQ tb)) rfl (by kernel_rfl) (fun w hS => by kernel_rfl) hq17_ ?_
 refine A_tk 11 (v := (vP (some ⟨tb, 2, none⟩))) rfl (by kernel_rfl) (fun w hS => by kernel_rfl) hq17_ ?_
 refine A_tk 12 (v := (vQ sb)) rfl (by kernel_rfl) (fun w hS => x_load1 rfl underlying173 rfl (hS.2.1 2 (vQ sb) rfl)) hq17_ ?_
 refine A_tk 13 (v := (vQ tb)) rfl (by kernel_rfl) (fun w hS => x_move rfl) hq17_ ?_
 refine A_tk 14 (v := (vQ tb)) rfl (by kernel_rfl) (fun w hS => by kernel_rfl) hq17_ ?_
 refine A_tk 15 (v := (vP (some ⟨tb, 2, none⟩))) rfl (by kernel_rfl) (fun w hS => by kernel_rfl) hq17_ ?_
 refine A_tk 16 (v := (vQ sb)) rfl (by kernel_rfl) (fun w hS => x_load1 rfl underlying173 rfl (hS.2.1 2 (vQ sb) rfl)) hq17_ ?_
 refine A_tk 17 (v := (vA #[((Value.iface it ix)), ((Value.iface jt jx)), ((Value.iface vt vx)), ((Value.iface jt jx)), (vQ sb), (vQ sb), (vQ sb), (vI .i64 1)])) rfl (by kernel_rfl) (fun w hS => by kernel_rfl) hq17_ ?_
 refine A_ready (i := 18) (rs := []) (by kernel_rfl) ?_
 refine AllR.cons ?_ AllR.nil
 refine A_op (ls' := #[true, true, true, true, true, true, true, true, true, true, true, true, true, true, true, true, true, true, true, false]) rfl (by kernel_rfl) (T_boxf (v := (vA #[((Value.iface it ix)), ((Value.iface jt jx)), ((Value.iface vt vx)), ((Value.iface jt jx)), (vQ sb), (vQ sb), (vQ sb), (vI .i64 1)])) rfl H16_ ?_)
 intro b18_ w19_ S21_ H20_
 have S22_ := Same.trans (Same.trans S14_ (Same.drew _)) S21_
 refine ⟨⟨Holds.rd H20_ 1 rfl, Holds.rd H20_ 4 rfl, Holds.tr_rd H20_ 5 rfl 6 rfl, (Holds.ro_at H20_ 3 rfl)⟩, ?_⟩
 have hq23_ := And.intro (Holds.rd H20_ 1 rfl) (And.intro (Holds.rd H20_ 4 rfl) (And.intro (Holds.tr_rd H20_ 5 rfl 6 rfl) ((Holds.ro_at H20_ 3 rfl))))
 refine A_tk 19 (v := (vQ b18_)) rfl (by kernel_rfl) (fun w hS => x_assign rfl) hq23_ ?_
 refine A_done (by kernel_rfl) ?_
 refine (X_then (hK15_ _ _ ?_))
 refine C_ret ?_
 refine R_any (v := (vQ b18_)) (run_results1 rfl rfl) ⟨_, rfl, ?_⟩
 refine sv (v := (vQ b18_)) (x_assign rfl) ?_
 refine wn (hK8_ _ _ ?_)
 refine cR fun _ hK24_ => ?_
 refine sm (vQ tb) ?_
 refine sv (v := (vQ tb)) (by kernel_rfl) ?_
 refine sv (v := (vQ tb)) (by kernel_rfl) ?_
 refine sv (v := (vQ (rt sb W))) (x_load1 rfl underlying173 rfl ((Holds.rd H20_ 4 rfl) 0 (vQ (rt sb W)) rfl)) ?_
 refine sv (v := (vQ (rt sb W))) (x_assign rfl) ?_
 refine wn (hK24_ _ _ ?_)
 refine C_seq (fun _ hK25_ => ?_)
 refine C_block ?_
 have H26_ : Holds w19_ (cx sb (rt sb W) ([] : List (Fr K)) :: clf b18_ 182 [((Value.iface it ix)), ((Value.iface jt jx)), ((Value.iface vt vx)), ((Value.iface jt jx)), (vQ sb), (vQ sb), (vQ sb), (vI .i64 1)] :: cl b10_ 177 [((Value.iface it ix)), ((Value.iface jt jx))] :: cl b2_ 177 [((Value.iface it ix)), ((Value.iface jt jx))] :: ro R :: cl tb 185 [(vQ (rt sb W)), (vI .i64 cnt), (vQ sb)] :: tr sb sb W :: clf sb 182 sc :: F) := Holds.cx_nil H20_
 have eH27_ : tr sb sb W = tr sb (pa sb ([] : List (Fr K))) W := by first | rfl | (congr 1 <;> first | rfl | omega | (simp; done) | (simp; omega))
 have H27_ : Holds w19_ (cx sb (rt sb W) ([] : List (Fr K)) :: clf b18_ 182 [((Value.iface it ix)), ((Value.iface jt jx)), ((Value.iface vt vx)), ((Value.iface jt jx)), (vQ sb), (vQ sb), (vQ sb), (vI .i64 1)] :: cl b10_ 177 [((Value.iface it ix)), ((Value.iface jt jx))] :: cl b2_ 177 [((Value.iface it ix)), ((Value.iface jt jx))] :: ro R :: cl tb 185 [(vQ (rt sb W)), (vI .i64 cnt), (vQ sb)] :: tr sb (pa sb ([] : List (Fr K))) W :: clf sb 182 sc :: F) := cast1 (P := fun c__ => Holds w19_ (cx sb (rt sb W) ([] : List (Fr K)) :: clf b18_ 182 [((Value.iface it ix)), ((Value.iface jt jx)), ((Value.iface vt vx)), ((Value.iface jt jx)), (vQ sb), (vQ sb), (vQ sb), (vI .i64 1)] :: cl b10_ 177 [((Value.iface it ix)), ((Value.iface jt jx))] :: cl b2_ 177 [((Value.iface it ix)), ((Value.iface jt jx))] :: ro R :: cl tb 185 [(vQ (rt sb W)), (vI .i64 cnt), (vQ sb)] :: c__ :: clf sb 182 sc :: F)) eH27_ H26_
 refine C_loop (γ := (List (Fr K)) × (Tr K)) (fun x__ a__ w1__ => match x__ with | ⟨C1, T⟩ => ∃ h : Env, a__ = mkA 165 (upd (upd (upd (upd h 0 (vQ tb)) 6 (vQ (pa sb C1))) 7 (vQ b18_)) 8 (vQ (rt sb T))) [] ∧ Holds w1__ (cx sb (rt sb T) C1 :: clf b18_ 182 [((Value.iface it ix)), ((Value.iface jt jx)), ((Value.iface vt vx)), ((Value.iface jt jx)), (vQ sb), (vQ sb), (vQ sb), (vI .i64 1)] :: cl b10_ 177 [((Value.iface it ix)), ((Value.iface jt jx))] :: cl b2_ 177 [((Value.iface it ix)), ((Value.iface jt jx))] :: ro R :: cl tb 185 [(vQ (rt sb W)), (vI .i64 cnt), (vQ sb)] :: tr sb (pa sb C1) T :: clf sb 182 sc :: F) ∧ Same w w1__ ∧ (plug C1 T = W) ∧ (way O kb ke C1) ∧ (TOk O R T) ∧ (COk O R C1)) (fun x__ => match x__ with | ⟨C1, T⟩ => (ino T).length) (⟨([] : List (Fr K)), W⟩) ⟨_, congrArg (fun e => mkA 165 e []) (ch (ch (ch (ch rfl rfl) ((by first | rfl | omega | (simp; done) | (simp; omega)) : (vQ sb) = (vQ ((pa sb ([] : List (Fr K))))))) rfl) rfl), H27_, S22_, (rfl), (trivial), (hW.1), (fun f hf => by cases hf)⟩ ?_
 rintro ⟨C1, T⟩ _ w28_ ⟨h, rfl, H29_, S30_, hpl, hway, hTk, hCk⟩
 refine C_seq (fun _ hK31_ => ?_)
 refine cR fun _ hK32_ => ?_
 rcases T with _ | ⟨f33_n, f33_a, f33_b⟩
 ·skip
  have H34_ : Holds w28_ (cx sb sb C1 :: clf b18_ 182 [((Value.iface it ix)), ((Value.iface jt jx)), ((Value.iface vt vx)), ((Value.iface jt jx)), (vQ sb), (vQ sb), (vQ sb), (vI .i64 1)] :: cl b10_ 177 [((Value.iface it ix)), ((Value.iface jt jx))] :: cl b2_ 177 [((Value.iface it ix)), ((Value.iface jt jx))] :: ro R :: cl tb 185 [(vQ (rt sb W)), (vI .i64 cnt), (vQ sb)] :: tr sb (pa sb C1) (Tr.lf : Tr K) :: clf sb 182 sc :: F) := (H29_)
  refine sm (vQ sb) ?_
  refine sm (vQ tb) ?_
  refine sv (v := (vQ tb)) (by kernel_rfl) ?_
  refine sv (v := (vP (some ⟨tb, 2, none⟩))) (by kernel_rfl) ?_
  refine sv (v := (vQ sb)) (x_load1 rfl underlying173 rfl ((Holds.rd H34_ 5 rfl) 2 (vQ sb) rfl)) ?_
  refine sv (v := (vB false)) (x_neP rfl rfl underlying173 z182) ?_
  refine wn (hK32_ _ _ ?_)
  refine C_condF rfl ?_
  refine C_exit (X_thenX (X_thenX (X_blkHit ?_)))
  refine (X_then (hK25_ _ _ ?_))
  refine cR fun _ hK35_ => ?_
  rcases C1 with _ | ⟨⟨_ | _, f36_p, f36_o⟩, f36_C⟩
  ·skip
   subst hpl
   have H37_ := H34_
   refine sm (vQ b18_) ?_
   refine sm (vQ sb) ?_
   refine sv (v := (vQ b18_)) (by kernel_rfl) ?_
   refine sv (v := (vP (some ⟨b18_, 6, none⟩))) (by kernel_rfl) ?_
   refine S_list0 (T_store1f (v := (vQ sb)) rfl rfl z173 rfl H37_ 1 rfl (Nat.le_of_ble_eq_true (by rfl)) ?_)
   intro w38_ S40_ H39_
   have S41_ := Same.trans S30_ S40_
   refine wn (hK35_ _ _ ?_)
   refine C_seq (fun _ hK42_ => ?_)
   refine cR fun _ hK43_ => ?_
   refine sm (vQ sb) ?_
   refine sm (vQ tb) ?_
   refine sv (v := (vQ tb)) (by kernel_rfl) ?_
   refine sv (v := (vP (some ⟨tb, 2, none⟩))) (by kernel_rfl) ?_
   refine sv (v := (vQ sb)) (x_load1 rfl underlying173 rfl ((Holds.rd H39_ 5 rfl) 2 (vQ sb) rfl)) ?_
   refine sv (v := (vB true)) (x_eqP rfl rfl underlying173 z182) ?_
   refine wn (hK43_ _ _ ?_)
   refine C_condT rfl ?_
   refine C_reg ?_
   refine sm (vQ tb) ?_
   refine sm (vQ b18_) ?_
   refine sv (v := (vQ tb)) (by kernel_rfl) ?_
   refine sv (v := (vQ tb)) (by kernel_rfl) ?_
   refine S_list0 (T_store1 (v := (vQ b18_)) rfl rfl z173 rfl H39_ 5 rfl (Nat.le_of_ble_eq_true (by rfl)) ?_)
   intro w44_ S46_ H45_
   have S47_ := Same.trans S41_ S46_
   refine wn (hK42_ _ _ ?_)
   refine cR fun _ hK48_ => ?_
   refine sm (vQ b18_) ?_
   refine sv (v := (vQ b18_)) (by kernel_rfl) ?_
   refine sv (v := (vP (some ⟨b18_, 7, none⟩))) (by kernel_rfl) ?_
   refine S_list0 (T_store1f (v := (vI .i64 1)) rfl rfl z180 rfl H45_ 1 rfl (Nat.le_of_ble_eq_true (by rfl)) ?_)
   intro w49_ S51_ H50_
   have S52_ := Same.trans S47_ S51_
   refine wn (hK48_ _ _ ?_)
   refine cR fun _ hK53_ => ?_
   refine sm (vQ tb) ?_
   refine sm (vQ b18_) ?_
   have H54_ := Holds.pkF H50_ [0, 0, 0, 0, 0, 0, 1] 1
   have H55_ : Holds w49_ (tr sb b18_ (Tr.lf : Tr K) :: cx sb sb ([] : List (Fr K)) :: clf b18_ 182 [((Value.iface it ix)), ((Value.iface jt jx)), ((Value.iface vt vx)), ((Value.iface jt jx)), (vQ sb), (vQ sb), (vQ sb), (vI .i64 1)] :: cl b10_ 177 [((Value.iface it ix)), ((Value.iface jt jx))] :: cl b2_ 177 [((Value.iface it ix)), ((Value.iface jt jx))] :: ro R :: cl tb 185 [(vQ b18_), (vI .i64 cnt), (vQ sb)] :: clf sb 182 sc :: F) := Holds.lf_tr H54_
   have H56_ : Holds w49_ (tr sb b18_ (Tr.lf : Tr K) :: tr sb b18_ (Tr.lf : Tr K) :: cx sb sb ([] : List (Fr K)) :: clf b18_ 182 [((Value.iface it ix)), ((Value.iface jt jx)), ((Value.iface vt vx)), ((Value.iface jt jx)), (vQ sb), (vQ sb), (vQ sb), (vI .i64 1)] :: cl b10_ 177 [((Value.iface it ix)), ((Value.iface jt jx))] :: cl b2_ 177 [((Value.iface it ix)), ((Value.iface jt jx))] :: ro R :: cl tb 185 [(vQ b18_), (vI .i64 cnt), (vQ sb)] :: clf sb 182 sc :: F) := Holds.lf_tr H55_
   have H57_ := ((Holds.bring (Holds.bring (Holds.bring H56_ 1 rfl) 1 rfl) 3 rfl) :)
   have H58_ := Holds.nd_tr (n := (⟨b18_, (Value.iface it ix), (Value.iface jt jx), (Value.iface vt vx), (Value.iface jt jx), 1, kb, ke, ke⟩ : ND K)) (a := (Tr.lf : Tr K)) (b := (Tr.lf : Tr K)) H57_
   have H59_ : Holds w49_ (tr sb (pa sb ([] : List (Fr K))) (Tr.nd (⟨b18_, (Value.iface it ix), (Value.iface jt jx), (Value.iface vt vx), (Value.iface jt jx), 1, kb, ke, ke⟩ : ND K) (Tr.lf : Tr K) (Tr.lf : Tr K)) :: cx sb b18_ ([] : List (Fr K)) :: cl b10_ 177 [((Value.iface it ix)), ((Value.iface jt jx))] :: cl b2_ 177 [((Value.iface it ix)), ((Value.iface jt jx))] :: ro R :: cl tb 185 [(vQ ((ra b18_ ([] : List (Fr K))))), (vI .i64 cnt), (vQ sb)] :: clf sb 182 sc :: F) := (H58_)
   have H60_ := H59_; rw [← pa_upC (O := O) sb ([] : List (Fr K)) (some ((Value.iface jt jx), ke)), ← ra_upC O ([] : List (Fr K)) b18_ (some ((Value.iface jt jx), ke))] at H60_
   have H61_ := H60_
   have hFx_ : FxI O R (inl ([] : List (Fr K)) ++ (⟨b18_, (Value.iface it ix), (Value.iface jt jx), (Value.iface vt vx), (Value.iface jt jx), 1, kb, ke, ke⟩ : ND K).er :: inr ([] : List (Fr K))) (upC O (some ((Value.iface jt jx), ke)) ([] : List (Fr K))) (Tr.nd (⟨b18_, (Value.iface it ix), (Value.iface jt jx), (Value.iface vt vx), (Value.iface jt jx), 1, kb, ke, ke⟩ : ND K) (Tr.lf : Tr K) (Tr.lf : Tr K)) := ins_fx hW1 hCk hb he
   have H62_ := Holds.recl H61_ 5 rfl ((lcons ((by first | rfl | omega | (simp; done) | (simp; omega)) : (vQ ((ra b18_ (upC O (some ((Value.iface jt jx), ke)) ([] : List (Fr K)))))) = (vP (some ⟨(ra (⟨b18_, (Value.iface it ix), (Value.iface jt jx), (Value.iface vt vx), (Value.iface jt jx), 1, kb, ke, ke⟩ : ND K).a (upC O (some ((Value.iface jt jx), ke)) ([] : List (Fr K)))), 0, none⟩))) rfl) : [(vQ ((ra b18_ (upC O (some ((Value.iface jt jx), ke)) ([] : List (Fr K)))))), (vI .i64 cnt), (vQ sb)] = [(vP (some ⟨(ra (⟨b18_, (Value.iface it ix), (Value.iface jt jx), (Value.iface vt vx), (Value.iface jt jx), 1, kb, ke, ke⟩ : ND K).a (upC O (some ((Value.iface jt jx), ke)) ([] : List (Fr K)))), 0, none⟩)), (vI .i64 cnt), (vQ sb)])
   have eH63_ : cx sb b18_ (upC O (some ((Value.iface jt jx), ke)) ([] : List (Fr K))) = cx sb ((⟨b18_, (Value.iface it ix), (Value.iface jt jx), (Value.iface vt vx), (Value.iface jt jx), 1, kb, ke, ke⟩ : ND K).a) (upC O (some ((Value.iface jt jx), ke)) ([] : List (Fr K))) := by first | rfl | (congr 1 <;> first | rfl | omega | (simp; done) | (simp; omega))
   have H63_ : Holds w49_ (tr sb (pa sb (upC O (some ((Value.iface jt jx), ke)) ([] : List (Fr K)))) (Tr.nd (⟨b18_, (Value.iface it ix), (Value.iface jt jx), (Value.iface vt vx), (Value.iface jt jx), 1, kb, ke, ke⟩ : ND K) (Tr.lf : Tr K) (Tr.lf : Tr K)) :: cx sb ((⟨b18_, (Value.iface it ix), (Value.iface jt jx), (Value.iface vt vx), (Value.iface jt jx), 1, kb, ke, ke⟩ : ND K).a) (upC O (some ((Value.iface jt jx), ke)) ([] : List (Fr K))) :: cl b10_ 177 [((Value.iface it ix)), ((Value.iface jt jx))] :: cl b2_ 177 [((Value.iface it ix)), ((Value.iface jt jx))] :: ro R :: cl tb 185 [(vP (some ⟨(ra (⟨b18_, (Value.iface it ix), (Value.iface jt jx), (Value.iface vt vx), (Value.iface jt jx), 1, kb, ke, ke⟩ : ND K).a (upC O (some ((Value.iface jt jx), ke)) ([] : List (Fr K)))), 0, none⟩)), (vI .i64 cnt), (vQ sb)] :: clf sb 182 sc :: F) := cast1 (P := fun c__ => Holds w49_ (tr sb (pa sb (upC O (some ((Value.iface jt jx), ke)) ([] : List (Fr K)))) (Tr.nd (⟨b18_, (Value.iface it ix), (Value.iface jt jx), (Value.iface vt vx), (Value.iface jt jx), 1, kb, ke, ke⟩ : ND K) (Tr.lf : Tr K) (Tr.lf : Tr K)) :: c__ :: cl b10_ 177 [((Value.iface it ix)), ((Value.iface jt jx))] :: cl b2_ 177 [((Value.iface it ix)), ((Value.iface jt jx))] :: ro R :: cl tb 185 [(vP (some ⟨(ra (⟨b18_, (Value.iface it ix), (Value.iface jt jx), (Value.iface vt vx), (Value.iface jt jx), 1, kb, ke, ke⟩ : ND K).a (upC O (some ((Value.iface jt jx), ke)) ([] : List (Fr K)))), 0, none⟩)), (vI .i64 cnt), (vQ sb)] :: clf sb 182 sc :: F)) eH63_ H62_
   have H67_ := ((Holds.bring (Holds.bring (Holds.bring (Holds.bring (Holds.bring H63_ 6 rfl) 2 rfl) 2 rfl) 6 rfl) 6 rfl) :)
   refine S_list (T_call (al := [(vQ tb), (vP (some ⟨(⟨b18_, (Value.iface it ix), (Value.iface jt jx), (Value.iface vt vx), (Value.iface jt jx), 1, kb, ke, ke⟩ : ND K).a, 0, none⟩))]) (pre := [cl tb 185 [(vP (some ⟨(ra (⟨b18_, (Value.iface it ix), (Value.iface jt jx), (Value.iface vt vx), (Value.iface jt jx), 1, kb, ke, ke⟩ : ND K).a (upC O (some ((Value.iface jt jx), ke)) ([] : List (Fr K)))), 0, none⟩)), (vI .i64 cnt), (vQ sb)], tr sb (pa sb (upC O (some ((Value.iface jt jx), ke)) ([] : List (Fr K)))) (Tr.nd (⟨b18_, (Value.iface it ix), (Value.iface jt jx), (Value.iface vt vx), (Value.iface jt jx), 1, kb, ke, ke⟩ : ND K) (Tr.lf : Tr K) (Tr.lf : Tr K)), cx sb ((⟨b18_, (Value.iface it ix), (Value.iface jt jx), (Value.iface vt vx), (Value.iface jt jx), 1, kb, ke, ke⟩ : ND K).a) (upC O (some ((Value.iface jt jx), ke)) ([] : List (Fr K))), clf sb 182 sc]) rfl (lcons rfl (lcons ((by first | rfl | omega | (simp; done) | (simp; omega)) : (vQ b18_) = (vP (some ⟨(⟨b18_, (Value.iface it ix), (Value.iface jt jx), (Value.iface vt vx), (Value.iface jt jx), 1, kb, ke, ke⟩ : ND K).a, 0, none⟩))) rfl)) cb169 (itFix R K O tb sb cnt sc (⟨b18_, (Value.iface it ix), (Value.iface jt jx), (Value.iface vt vx), (Value.iface jt jx), 1, kb, ke, ke⟩ : ND K) (Tr.lf : Tr K) (Tr.lf : Tr K) (upC O (some ((Value.iface jt jx), ke)) ([] : List (Fr K))) (inl ([] : List (Fr K)) ++ (⟨b18_, (Value.iface it ix), (Value.iface jt jx), (Value.iface vt vx), (Value.iface jt jx), 1, kb, ke, ke⟩ : ND K).er :: inr ([] : List (Fr K))) (hFx_)) H67_ ?_)
   rintro v64_ p71_ w68_ ⟨W65_, rfl, rfl, he66_⟩ S70_ H69_
   have S72_ := Same.trans S52_ S70_
   refine wn (hK53_ _ _ ?_)
   refine C_reg ?_
   refine sm (vQ tb) ?_
   refine sv (v := (vQ tb)) (by kernel_rfl) ?_
   refine sv (v := (vP (some ⟨tb, 1, none⟩))) (by kernel_rfl) ?_
   refine sv (v := (vI .i64 cnt)) (x_load1 rfl underlying3 rfl ((Holds.rd H69_ 1 rfl) 1 (vI .i64 cnt) rfl)) ?_
   refine sv (v := (vI .i64 (IntKind.i64.wrap (cnt + 1)))) (x_bin rfl rfl rfl) ?_
   refine sv (v := (vQ tb)) (by kernel_rfl) ?_
   refine sv (v := (vP (some ⟨tb, 1, none⟩))) (by kernel_rfl) ?_
   refine S_list0 (T_store1 (v := (vI .i64 (IntKind.i64.wrap (cnt + 1)))) rfl rfl z3 rfl H69_ 1 rfl (Nat.le_of_ble_eq_true (by rfl)) ?_)
   intro w73_ S75_ H74_
   have S76_ := Same.trans S72_ S75_
   refine wpList_nil ?_
   refine R_0 rfl ?_
   have H77_ := Holds.pkF H74_ [0, 0, 0, 0] 2
   exact ⟨_, _, rfl, ⟨W65_, (inl ([] : List (Fr K))), (inr ([] : List (Fr K))), (⟨b18_, (Value.iface it ix), (Value.iface jt jx), (Value.iface vt vx), (Value.iface jt jx), 1, kb, ke, ke⟩ : ND K), rfl, rfl, (⟨he66_.1, he66_.2.1, he66_.2.2.2⟩), (he66_.2.2.1), (by rw [ino_plug]; simp [ino]), (⟨rfl, rfl, rfl, rfl, rfl⟩), (by rw [he66_.2.2.1]; exact ins_srt hway (by have := hs; rw [ino_plug] at this; simpa [ino] using this)), ((way_in (C := ([] : List (Fr K))) (M := []) hway (by have := hs; rw [ino_plug] at this; simpa [ino] using this)).1), ((way_in (C := ([] : List (Fr K))) (M := []) hway (by have := hs; rw [ino_plug] at this; simpa [ino] using this)).2)⟩, S76_, H77_⟩
  ·skip
   subst hpl
   have H78_ := H34_; rw [show rt sb (plug ((⟨false, f36_p, f36_o⟩ : Fr K) :: f36_C) (Tr.lf : Tr K)) = ra f36_p.a f36_C from rt_plug sb f36_C f36_p f36_o (Tr.lf : Tr K)] at H78_
   have H79_ := H78_
   have H80_ := Holds.cx_cons H79_
   obtain ⟨ht_, hcx_⟩ : LocT O (Tr.lf : Tr K) ∧ LocC O none ((⟨false, f36_p, f36_o⟩ : Fr K) :: f36_C) := loc_unplug (C := ((⟨false, f36_p, f36_o⟩ : Fr K) :: f36_C)) (t := (Tr.lf : Tr K)) hW1.2.1
   have hck_ : COk O R ((⟨false, f36_p, f36_o⟩ : Fr K) :: f36_C) := hCk
   have hkp_ := (hck_ _ (List.mem_cons_self ..)).1
   have hw_ := hway.1; unfold bef at hw_; simp only [if_true, if_false, Bool.false_eq_true] at hw_
   refine sm (vQ b18_) ?_
   refine sm (vQ f36_p.a) ?_
   refine sv (v := (vQ b18_)) (by kernel_rfl) ?_
   refine sv (v := (vP (some ⟨b18_, 6, none⟩))) (by kernel_rfl) ?_
   refine S_list0 (T_store1f (v := (vQ f36_p.a)) rfl rfl z173 rfl H80_ 3 rfl (Nat.le_of_ble_eq_true (by rfl)) ?_)
   intro w81_ S83_ H82_
   have S84_ := Same.trans S30_ S83_
   refine wn (hK35_ _ _ ?_)
   refine C_seq (fun _ hK85_ => ?_)
   refine cR fun _ hK86_ => ?_
   refine sm (vQ f36_p.a) ?_
   refine sm (vQ tb) ?_
   refine sv (v := (vQ tb)) (by kernel_rfl) ?_
   refine sv (v := (vP (some ⟨tb, 2, none⟩))) (by kernel_rfl) ?_
   refine sv (v := (vQ sb)) (x_load1 rfl underlying173 rfl ((Holds.rd H82_ 7 rfl) 2 (vQ sb) rfl)) ?_
   have hpc87_ : f36_p.a ≠ sb := Holds.ne_f H82_ 0 rfl 9 rfl (by decide)
   refine sv (v := (vB false)) (x_cast (x_eqPN rfl rfl underlying173 z182 (by decide) (Holds.blk H82_ 0 rfl) (Holds.blk H82_ 9 rfl)) (congrArg vB (decide_eq_false hpc87_))) ?_
   refine wn (hK86_ _ _ ?_)
   refine C_condF rfl ?_
   refine C_seq (fun _ hK88_ => ?_)
   refine A_start (S := fun w => (Rd f36_p.a [f36_p.b, f36_p.e, f36_p.v, f36_p.mx, (vQ (rt sb f36_o)), (vQ sb), (vQ (pa sb f36_C)), (vI .i64 f36_p.c)] w ∧ Blk w f36_p.a) ∧ RtRd w (rt sb f36_o) (rmx f36_o) ∧ (Rd b18_ [((Value.iface it ix)), ((Value.iface jt jx)), ((Value.iface vt vx)), ((Value.iface jt jx)), (vQ sb), (vQ sb), (vQ f36_p.a), (vI .i64 1)] w ∧ Blk w b18_) ∧ RtRd w (rt sb (Tr.lf : Tr K)) (rmx (Tr.lf : Tr K)) ∧ Sub R (hp w)) (N := 16) foll rfl rfl ?_
   have H89_ := Holds.drew_ H82_
   have hq90_ := And.intro ((And.intro (Holds.rdf H89_ 0 rfl) (Holds.blk H89_ 0 rfl))) (And.intro (Holds.tr_rd H89_ 1 rfl 9 rfl) (And.intro ((And.intro (Holds.rdf H89_ 3 rfl) (Holds.blk H89_ 3 rfl))) (And.intro (Holds.tr_rd H89_ 8 rfl 9 rfl) ((Holds.ro_at H89_ 6 rfl)))))
   refine A_tk 0 (v := (vQ b18_)) rfl (by kernel_rfl) (fun w hS => x_move rfl) hq90_ ?_
   refine A_tk 1 (v := (vQ b18_)) rfl (by kernel_rfl) (fun w hS => by kernel_rfl) hq90_ ?_
   refine A_tk 2 (v := (vQ b18_)) rfl (by kernel_rfl) (fun w hS => by kernel_rfl) hq90_ ?_
   refine A_tk 3 (v := (vQ b18_)) rfl (by kernel_rfl) (fun w hS => by kernel_rfl) hq90_ ?_
   refine A_tk 4 (v := (vQ b18_)) rfl (by kernel_rfl) (fun w hS => by kernel_rfl) hq90_ ?_
   refine A_tk 5 (v := ((Value.iface it ix))) rfl (by kernel_rfl) (fun w hS => x_load1 rfl underlying175 rfl (hS.2.2.1.1 0 ((Value.iface it ix)) rfl)) hq90_ ?_
   refine A_tk 6 (v := (vQ f36_p.a)) rfl (by kernel_rfl) (fun w hS => x_move rfl) hq90_ ?_
   refine A_tk 7 (v := (vQ f36_p.a)) rfl (by kernel_rfl) (fun w hS => by kernel_rfl) hq90_ ?_
   refine A_tk 8 (v := (vQ f36_p.a)) rfl (by kernel_rfl) (fun w hS => by kernel_rfl) hq90_ ?_
   refine A_tk 9 (v := (vQ f36_p.a)) rfl (by kernel_rfl) (fun w hS => by kernel_rfl) hq90_ ?_
   refine A_tk 10 (v := (vQ f36_p.a)) rfl (by kernel_rfl) (fun w hS => by kernel_rfl) hq90_ ?_
   refine A_tk 11 (v := f36_p.b) rfl (by kernel_rfl) (fun w hS => x_load1 rfl underlying175 rfl (hS.1.1 0 f36_p.b rfl)) hq90_ ?_
   refine A_tk 12 (v := ((Value.iface it ix))) rfl (by kernel_rfl) (fun w hS => by kernel_rfl) hq90_ ?_
   refine A_tk 13 (v := ((Value.iface it ix))) rfl (by kernel_rfl) (fun w hS => x_move rfl) hq90_ ?_
   refine A_ready (i := 14) (rs := []) (by kernel_rfl) ?_
   refine AllR.cons ?_ AllR.nil
   refine A_op (ls' := #[true, true, true, true, true, true, true, true, true, true, true, true, true, true, true, false]) rfl (by kernel_rfl) (T_cmp rfl rfl (O.cmp hb (hkp_.b)) H89_ 6 rfl ?_)
   intro w91_ S93_ H92_
   have S94_ := Same.trans (Same.trans S84_ (Same.drew _)) S93_
   refine ⟨⟨(And.intro (Holds.rdf H92_ 0 rfl) (Holds.blk H92_ 0 rfl)), Holds.tr_rd H92_ 1 rfl 9 rfl, (And.intro (Holds.rdf H92_ 3 rfl) (Holds.blk H92_ 3 rfl)), Holds.tr_rd H92_ 8 rfl 9 rfl, (Holds.ro_at H92_ 6 rfl)⟩, ?_⟩
   have hq95_ := And.intro ((And.intro (Holds.rdf H92_ 0 rfl) (Holds.blk H92_ 0 rfl))) (And.intro (Holds.tr_rd H92_ 1 rfl 9 rfl) (And.intro ((And.intro (Holds.rdf H92_ 3 rfl) (Holds.blk H92_ 3 rfl))) (And.intro (Holds.tr_rd H92_ 8 rfl 9 rfl) ((Holds.ro_at H92_ 6 rfl)))))
   refine A_tk 15 (v := (vI .i64 (O.cm kb f36_p.kb))) rfl (by kernel_rfl) (fun w hS => x_assign rfl) hq95_ ?_
   refine A_done (by kernel_rfl) ?_
   refine (X_then (hK88_ _ _ ?_))
   refine C_seq (fun _ hK96_ => ?_)
   refine cR fun _ hK97_ => ?_
   refine sm (vI .i64 (O.cm kb f36_p.kb)) ?_
   refine sv (v := (vB (decide (O.cm kb f36_p.kb < 0)))) (x_bin rfl rfl rfl) ?_
   refine wn (hK97_ _ _ ?_)
   refine C_cond (b := decide (O.cm kb f36_p.kb < 0)) rfl (fun c98_t => ?_) (fun c98_f => ?_)
   ·have c98_tp : O.cm kb f36_p.kb < 0 := of_decide_eq_true c98_t
    omega
   ·have c98_fp : ¬ (O.cm kb f36_p.kb < 0) := of_decide_eq_false c98_f
    refine cR fun _ hK99_ => ?_
    refine sm (vI .i64 (O.cm kb f36_p.kb)) ?_
    refine sv (v := (vB (decide (O.cm kb f36_p.kb = 0)))) (x_bin rfl rfl rfl) ?_
    refine wn (hK99_ _ _ ?_)
    refine C_cond (b := decide (O.cm kb f36_p.kb = 0)) rfl (fun c100_t => ?_) (fun c100_f => ?_)
    ·have c100_tp : O.cm kb f36_p.kb = 0 := of_decide_eq_true c100_t
     refine C_seq (fun _ hK101_ => ?_)
     refine A_start (S := fun w => (Rd f36_p.a [f36_p.b, f36_p.e, f36_p.v, f36_p.mx, (vQ (rt sb f36_o)), (vQ sb), (vQ (pa sb f36_C)), (vI .i64 f36_p.c)] w ∧ Blk w f36_p.a) ∧ RtRd w (rt sb f36_o) (rmx f36_o) ∧ (Rd b18_ [((Value.iface it ix)), ((Value.iface jt jx)), ((Value.iface vt vx)), ((Value.iface jt jx)), (vQ sb), (vQ sb), (vQ f36_p.a), (vI .i64 1)] w ∧ Blk w b18_) ∧ RtRd w (rt sb (Tr.lf : Tr K)) (rmx (Tr.lf : Tr K)) ∧ Sub R (hp w)) (N := 16) foll rfl rfl ?_
     have H102_ := Holds.drew_ H92_
     have hq103_ := And.intro ((And.intro (Holds.rdf H102_ 0 rfl) (Holds.blk H102_ 0 rfl))) (And.intro (Holds.tr_rd H102_ 1 rfl 9 rfl) (And.intro ((And.intro (Holds.rdf H102_ 3 rfl) (Holds.blk H102_ 3 rfl))) (And.intro (Holds.tr_rd H102_ 8 rfl 9 rfl) ((Holds.ro_at H102_ 6 rfl)))))
     refine A_tk 0 (v := (vQ b18_)) rfl (by kernel_rfl) (fun w hS => x_move rfl) hq103_ ?_
     refine A_tk 1 (v := (vQ b18_)) rfl (by kernel_rfl) (fun w hS => by kernel_rfl) hq103_ ?_
     refine A_tk 2 (v := (vQ b18_)) rfl (by kernel_rfl) (fun w hS => by kernel_rfl) hq103_ ?_
     refine A_tk 3 (v := (vQ b18_)) rfl (by kernel_rfl) (fun w hS => by kernel_rfl) hq103_ ?_
     refine A_tk 4 (v := (vP (some ⟨b18_, 1, none⟩))) rfl (by kernel_rfl) (fun w hS => by kernel_rfl) hq103_ ?_
     refine A_tk 5 (v := ((Value.iface jt jx))) rfl (by kernel_rfl) (fun w hS => x_load1 rfl underlying175 rfl (hS.2.2.1.1 1 ((Value.iface jt jx)) rfl)) hq103_ ?_
     refine A_tk 6 (v := (vQ f36_p.a)) rfl (by kernel_rfl) (fun w hS => x_move rfl) hq103_ ?_
     refine A_tk 7 (v := (vQ f36_p.a)) rfl (by kernel_rfl) (fun w hS => by kernel_rfl) hq103_ ?_
     refine A_tk 8 (v := (vQ f36_p.a)) rfl (by kernel_rfl) (fun w hS => by kernel_rfl) hq103_ ?_
     refine A_tk 9 (v := (vQ f36_p.a)) rfl (by kernel_rfl) (fun w hS => by kernel_rfl) hq103_ ?_
     refine A_tk 10 (v := (vP (some ⟨f36_p.a, 1, none⟩))) rfl (by kernel_rfl) (fun w hS => by kernel_rfl) hq103_ ?_
     refine A_tk 11 (v := f36_p.e) rfl (by kernel_rfl) (fun w hS => x_load1 rfl underlying175 rfl (hS.1.1 1 f36_p.e rfl)) hq103_ ?_
     refine A_tk 12 (v := ((Value.iface jt jx))) rfl (by kernel_rfl) (fun w hS => by kernel_rfl) hq103_ ?_
     refine A_tk 13 (v := ((Value.iface jt jx))) rfl (by kernel_rfl) (fun w hS => x_move rfl) hq103_ ?_
     refine A_ready (i := 14) (rs := []) (by kernel_rfl) ?_
     refine AllR.cons ?_ AllR.nil
     refine A_op (ls' := #[true, true, true, true, true, true, true, true, true, true, true, true, true, true, true, false]) rfl (by kernel_rfl) (T_cmp rfl rfl (O.cmp he (hkp_.e)) H102_ 6 rfl ?_)
     intro w104_ S106_ H105_
     have S107_ := Same.trans (Same.trans S94_ (Same.drew _)) S106_
     refine ⟨⟨(And.intro (Holds.rdf H105_ 0 rfl) (Holds.blk H105_ 0 rfl)), Holds.tr_rd H105_ 1 rfl 9 rfl, (And.intro (Holds.rdf H105_ 3 rfl) (Holds.blk H105_ 3 rfl)), Holds.tr_rd H105_ 8 rfl 9 rfl, (Holds.ro_at H105_ 6 rfl)⟩, ?_⟩
     have hq108_ := And.intro ((And.intro (Holds.rdf H105_ 0 rfl) (Holds.blk H105_ 0 rfl))) (And.intro (Holds.tr_rd H105_ 1 rfl 9 rfl) (And.intro ((And.intro (Holds.rdf H105_ 3 rfl) (Holds.blk H105_ 3 rfl))) (And.intro (Holds.tr_rd H105_ 8 rfl 9 rfl) ((Holds.ro_at H105_ 6 rfl)))))
     refine A_tk 15 (v := (vB (decide (O.cm ke f36_p.ke < 0)))) rfl (by kernel_rfl) (fun w hS => x_bin rfl rfl rfl) hq108_ ?_
     refine A_done (by kernel_rfl) ?_
     refine (X_then (hK101_ _ _ ?_))
     refine C_cond (b := decide (O.cm ke f36_p.ke < 0)) rfl (fun c109_t => ?_) (fun c109_f => ?_)
     ·have c109_tp : O.cm ke f36_p.ke < 0 := of_decide_eq_true c109_t
      omega
     ·have c109_fp : ¬ (O.cm ke f36_p.ke < 0) := of_decide_eq_false c109_f
      refine C_reg ?_
      refine sm (vQ f36_p.a) ?_
      refine sm (vQ b18_) ?_
      refine sv (v := (vQ f36_p.a)) (by kernel_rfl) ?_
      refine sv (v := (vP (some ⟨f36_p.a, 5, none⟩))) (by kernel_rfl) ?_
      refine S_list0 (T_store1f (v := (vQ b18_)) rfl rfl z173 rfl H105_ 0 rfl (Nat.le_of_ble_eq_true (by rfl)) ?_)
      intro w110_ S112_ H111_
      have S113_ := Same.trans S107_ S112_
      refine wn (hK96_ _ _ ?_)
      refine C_reg ?_
      refine sm (vQ f36_p.a) ?_
      refine sm (vQ tb) ?_
      refine sv (v := (vQ tb)) (by kernel_rfl) ?_
      refine sv (v := (vP (some ⟨tb, 2, none⟩))) (by kernel_rfl) ?_
      refine sv (v := (vQ sb)) (x_load1 rfl underlying173 rfl ((Holds.rd H111_ 7 rfl) 2 (vQ sb) rfl)) ?_
      have H114_ := Holds.cons_cx (sb := sb) (f := (⟨false, f36_p, f36_o⟩ : Fr K)) (C := f36_C) (x := b18_) H111_
      have H115_ := H114_
      have H117_ := ((Holds.bring (Holds.bring (Holds.bring (Holds.bring H115_ 7 rfl) 1 rfl) 2 rfl) 5 rfl) :)
      refine S_list (T_call (al := [(vP (some ⟨(pa sb ((⟨false, f36_p, f36_o⟩ : Fr K) :: f36_C)), 0, none⟩)), (vQ sb)]) (pre := [hol (some ((⟨b18_, (Value.iface it ix), (Value.iface jt jx), (Value.iface vt vx), (Value.iface jt jx), 1, kb, ke, ke⟩ : ND K), sb, sb, f36_p.a)), cx sb (ha sb (some ((⟨b18_, (Value.iface it ix), (Value.iface jt jx), (Value.iface vt vx), (Value.iface jt jx), 1, kb, ke, ke⟩ : ND K), sb, sb, f36_p.a))) ((⟨false, f36_p, f36_o⟩ : Fr K) :: f36_C), clf sb 182 sc]) rfl (lcons ((by first | rfl | omega | (simp; done) | (simp; omega)) : (vQ f36_p.a) = (vP (some ⟨(pa sb ((⟨false, f36_p, f36_o⟩ : Fr K) :: f36_C)), 0, none⟩))) rfl) cb152 (itUpMax R K O sb sc (some ((⟨b18_, (Value.iface it ix), (Value.iface jt jx), (Value.iface vt vx), (Value.iface jt jx), 1, kb, ke, ke⟩ : ND K), sb, sb, f36_p.a)) ((⟨false, f36_p, f36_o⟩ : Fr K) :: f36_C) (hck_) (fun q hq => by cases hq; exact he)) H117_ ?_)
      rintro v116_ p121_ w118_ ⟨rfl, rfl⟩ S120_ H119_
      have S122_ := Same.trans S113_ S120_
      have H123_ := H119_
      refine wn (hK85_ _ _ ?_)
      refine cR fun _ hK124_ => ?_
      refine sm (vQ b18_) ?_
      refine sv (v := (vQ b18_)) (by kernel_rfl) ?_
      refine sv (v := (vP (some ⟨b18_, 7, none⟩))) (by kernel_rfl) ?_
      refine S_list0 (T_store1f (v := (vI .i64 1)) rfl rfl z180 rfl H123_ 1 rfl (Nat.le_of_ble_eq_true (by rfl)) ?_)
      intro w125_ S127_ H126_
      have S128_ := Same.trans S122_ S127_
      refine wn (hK124_ _ _ ?_)
      refine cR fun _ hK129_ => ?_
      refine sm (vQ tb) ?_
      refine sm (vQ b18_) ?_
      have H130_ := Holds.pkF H126_ [0, 0, 0, 0, 0, 0, 0] 1
      have H131_ : Holds w125_ (tr sb b18_ (Tr.lf : Tr K) :: ro R :: clf b18_ 182 [((Value.iface it ix)), ((Value.iface jt jx)), ((Value.iface vt vx)), ((Value.iface jt jx)), (vQ sb), (vQ sb), (vQ f36_p.a), (vI .i64 1)] :: cx sb b18_ (upC O (some ((Value.iface jt jx), ke)) ((⟨false, f36_p, f36_o⟩ : Fr K) :: f36_C)) :: clf sb 182 sc :: cl b10_ 177 [((Value.iface it ix)), ((Value.iface jt jx))] :: cl b2_ 177 [((Value.iface it ix)), ((Value.iface jt jx))] :: cl tb 185 [(vQ (ra f36_p.a f36_C)), (vI .i64 cnt), (vQ sb)] :: F) := Holds.lf_tr H130_
      have H132_ : Holds w125_ (tr sb b18_ (Tr.lf : Tr K) :: tr sb b18_ (Tr.lf : Tr K) :: ro R :: clf b18_ 182 [((Value.iface it ix)), ((Value.iface jt jx)), ((Value.iface vt vx)), ((Value.iface jt jx)), (vQ sb), (vQ sb), (vQ f36_p.a), (vI .i64 1)] :: cx sb b18_ (upC O (some ((Value.iface jt jx), ke)) ((⟨false, f36_p, f36_o⟩ : Fr K) :: f36_C)) :: clf sb 182 sc :: cl b10_ 177 [((Value.iface it ix)), ((Value.iface jt jx))] :: cl b2_ 177 [((Value.iface it ix)), ((Value.iface jt jx))] :: cl tb 185 [(vQ (ra f36_p.a f36_C)), (vI .i64 cnt), (vQ sb)] :: F) := Holds.lf_tr H131_
      have H133_ := ((Holds.bring (Holds.bring (Holds.bring H132_ 1 rfl) 1 rfl) 3 rfl) :)
      have H134_ := Holds.nd_tr (n := (⟨b18_, (Value.iface it ix), (Value.iface jt jx), (Value.iface vt vx), (Value.iface jt jx), 1, kb, ke, ke⟩ : ND K)) (a := (Tr.lf : Tr K)) (b := (Tr.lf : Tr K)) H133_
      have H135_ : Holds w125_ (tr sb (pa sb ((⟨false, f36_p, f36_o⟩ : Fr K) :: f36_C)) (Tr.nd (⟨b18_, (Value.iface it ix), (Value.iface jt jx), (Value.iface vt vx), (Value.iface jt jx), 1, kb, ke, ke⟩ : ND K) (Tr.lf : Tr K) (Tr.lf : Tr K)) :: ro R :: cx sb b18_ (upC O (some ((Value.iface jt jx), ke)) ((⟨false, f36_p, f36_o⟩ : Fr K) :: f36_C)) :: clf sb 182 sc :: cl b10_ 177 [((Value.iface it ix)), ((Value.iface jt jx))] :: cl b2_ 177 [((Value.iface it ix)), ((Value.iface jt jx))] :: cl tb 185 [(vP (some ⟨(ra b18_ ((⟨false, f36_p, f36_o⟩ : Fr K) :: f36_C)), 0, none⟩)), (vI .i64 cnt), (vQ sb)] :: F) := (H134_)
      have H136_ := H135_; rw [← pa_upC (O := O) sb ((⟨false, f36_p, f36_o⟩ : Fr K) :: f36_C) (some ((Value.iface jt jx), ke)), ← ra_upC O ((⟨false, f36_p, f36_o⟩ : Fr K) :: f36_C) b18_ (some ((Value.iface jt jx), ke))] at H136_
      have H137_ := H136_
      have hFx_ : FxI O R (inl ((⟨false, f36_p, f36_o⟩ : Fr K) :: f36_C) ++ (⟨b18_, (Value.iface it ix), (Value.iface jt jx), (Value.iface vt vx), (Value.iface jt jx), 1, kb, ke, ke⟩ : ND K).er :: inr ((⟨false, f36_p, f36_o⟩ : Fr K) :: f36_C)) (upC O (some ((Value.iface jt jx), ke)) ((⟨false, f36_p, f36_o⟩ : Fr K) :: f36_C)) (Tr.nd (⟨b18_, (Value.iface it ix), (Value.iface jt jx), (Value.iface vt vx), (Value.iface jt jx), 1, kb, ke, ke⟩ : ND K) (Tr.lf : Tr K) (Tr.lf : Tr K)) := ins_fx hW1 hCk hb he
      have H138_ := Holds.recl H137_ 6 rfl ((lcons ((by first | rfl | omega | (simp; done) | (simp; omega)) : (vP (some ⟨(ra b18_ (upC O (some ((Value.iface jt jx), ke)) ((⟨false, f36_p, f36_o⟩ : Fr K) :: f36_C))), 0, none⟩)) = (vP (some ⟨(ra (⟨b18_, (Value.iface it ix), (Value.iface jt jx), (Value.iface vt vx), (Value.iface jt jx), 1, kb, ke, ke⟩ : ND K).a (upC O (some ((Value.iface jt jx), ke)) ((⟨false, f36_p, f36_o⟩ : Fr K) :: f36_C))), 0, none⟩))) rfl) : [(vP (some ⟨(ra b18_ (upC O (some ((Value.iface jt jx), ke)) ((⟨false, f36_p, f36_o⟩ : Fr K) :: f36_C))), 0, none⟩)), (vI .i64 cnt), (vQ sb)] = [(vP (some ⟨(ra (⟨b18_, (Value.iface it ix), (Value.iface jt jx), (Value.iface vt vx), (Value.iface jt jx), 1, kb, ke, ke⟩ : ND K).a (upC O (some ((Value.iface jt jx), ke)) ((⟨false, f36_p, f36_o⟩ : Fr K) :: f36_C))), 0, none⟩)), (vI .i64 cnt), (vQ sb)])
      have eH139_ : cx sb b18_ (upC O (some ((Value.iface jt jx), ke)) ((⟨false, f36_p, f36_o⟩ : Fr K) :: f36_C)) = cx sb ((⟨b18_, (Value.iface it ix), (Value.iface jt jx), (Value.iface vt vx), (Value.iface jt jx), 1, kb, ke, ke⟩ : ND K).a) (upC O (some ((Value.iface jt jx), ke)) ((⟨false, f36_p, f36_o⟩ : Fr K) :: f36_C)) := by first | rfl | (congr 1 <;> first | rfl | omega | (simp; done) | (simp; omega))
      have H139_ : Holds w125_ (tr sb (pa sb (upC O (some ((Value.iface jt jx), ke)) ((⟨false, f36_p, f36_o⟩ : Fr K) :: f36_C))) (Tr.nd (⟨b18_, (Value.iface it ix), (Value.iface jt jx), (Value.iface vt vx), (Value.iface jt jx), 1, kb, ke, ke⟩ : ND K) (Tr.lf : Tr K) (Tr.lf : Tr K)) :: ro R :: cx sb ((⟨b18_, (Value.iface it ix), (Value.iface jt jx), (Value.iface vt vx), (Value.iface jt jx), 1, kb, ke, ke⟩ : ND K).a) (upC O (some ((Value.iface jt jx), ke)) ((⟨false, f36_p, f36_o⟩ : Fr K) :: f36_C)) :: clf sb 182 sc :: cl b10_ 177 [((Value.iface it ix)), ((Value.iface jt jx))] :: cl b2_ 177 [((Value.iface it ix)), ((Value.iface jt jx))] :: cl tb 185 [(vP (some ⟨(ra (⟨b18_, (Value.iface it ix), (Value.iface jt jx), (Value.iface vt vx), (Value.iface jt jx), 1, kb, ke, ke⟩ : ND K).a (upC O (some ((Value.iface jt jx), ke)) ((⟨false, f36_p, f36_o⟩ : Fr K) :: f36_C))), 0, none⟩)), (vI .i64 cnt), (vQ sb)] :: F) := cast1 (P := fun c__ => Holds w125_ (tr sb (pa sb (upC O (some ((Value.iface jt jx), ke)) ((⟨false, f36_p, f36_o⟩ : Fr K) :: f36_C))) (Tr.nd (⟨b18_, (Value.iface it ix), (Value.iface jt jx), (Value.iface vt vx), (Value.iface jt jx), 1, kb, ke, ke⟩ : ND K) (Tr.lf : Tr K) (Tr.lf : Tr K)) :: ro R :: c__ :: clf sb 182 sc :: cl b10_ 177 [((Value.iface it ix)), ((Value.iface jt jx))] :: cl b2_ 177 [((Value.iface it ix)), ((Value.iface jt jx))] :: cl tb 185 [(vP (some ⟨(ra (⟨b18_, (Value.iface it ix), (Value.iface jt jx), (Value.iface vt vx), (Value.iface jt jx), 1, kb, ke, ke⟩ : ND K).a (upC O (some ((Value.iface jt jx), ke)) ((⟨false, f36_p, f36_o⟩ : Fr K) :: f36_C))), 0, none⟩)), (vI .i64 cnt), (vQ sb)] :: F)) eH139_ H138_
      have H143_ := ((Holds.bring (Holds.bring (Holds.bring (Holds.bring (Holds.bring H139_ 3 rfl) 3 rfl) 2 rfl) 6 rfl) 4 rfl) :)
      refine S_list (T_call (al := [(vQ tb), (vP (some ⟨(⟨b18_, (Value.iface it ix), (Value.iface jt jx), (Value.iface vt vx), (Value.iface jt jx), 1, kb, ke, ke⟩ : ND K).a, 0, none⟩))]) (pre := [cl tb 185 [(vP (some ⟨(ra (⟨b18_, (Value.iface it ix), (Value.iface jt jx), (Value.iface vt vx), (Value.iface jt jx), 1, kb, ke, ke⟩ : ND K).a (upC O (some ((Value.iface jt jx), ke)) ((⟨false, f36_p, f36_o⟩ : Fr K) :: f36_C))), 0, none⟩)), (vI .i64 cnt), (vQ sb)], tr sb (pa sb (upC O (some ((Value.iface jt jx), ke)) ((⟨false, f36_p, f36_o⟩ : Fr K) :: f36_C))) (Tr.nd (⟨b18_, (Value.iface it ix), (Value.iface jt jx), (Value.iface vt vx), (Value.iface jt jx), 1, kb, ke, ke⟩ : ND K) (Tr.lf : Tr K) (Tr.lf : Tr K)), cx sb ((⟨b18_, (Value.iface it ix), (Value.iface jt jx), (Value.iface vt vx), (Value.iface jt jx), 1, kb, ke, ke⟩ : ND K).a) (upC O (some ((Value.iface jt jx), ke)) ((⟨false, f36_p, f36_o⟩ : Fr K) :: f36_C)), clf sb 182 sc]) rfl (lcons rfl (lcons ((by first | rfl | omega | (simp; done) | (simp; omega)) : (vQ b18_) = (vP (some ⟨(⟨b18_, (Value.iface it ix), (Value.iface jt jx), (Value.iface vt vx), (Value.iface jt jx), 1, kb, ke, ke⟩ : ND K).a, 0, none⟩))) rfl)) cb169 (itFix R K O tb sb cnt sc (⟨b18_, (Value.iface it ix), (Value.iface jt jx), (Value.iface vt vx), (Value.iface jt jx), 1, kb, ke, ke⟩ : ND K) (Tr.lf : Tr K) (Tr.lf : Tr K) (upC O (some ((Value.iface jt jx), ke)) ((⟨false, f36_p, f36_o⟩ : Fr K) :: f36_C)) (inl ((⟨false, f36_p, f36_o⟩ : Fr K) :: f36_C) ++ (⟨b18_, (Value.iface it ix), (Value.iface jt jx), (Value.iface vt vx), (Value.iface jt jx), 1, kb, ke, ke⟩ : ND K).er :: inr ((⟨false, f36_p, f36_o⟩ : Fr K) :: f36_C)) (hFx_)) H143_ ?_)
      rintro v140_ p147_ w144_ ⟨W141_, rfl, rfl, he142_⟩ S146_ H145_
      have S148_ := Same.trans S128_ S146_
      refine wn (hK129_ _ _ ?_)
      refine C_reg ?_
      refine sm (vQ tb) ?_
      refine sv (v := (vQ tb)) (by kernel_rfl) ?_
      refine sv (v := (vP (some ⟨tb, 1, none⟩))) (by kernel_rfl) ?_
      refine sv (v := (vI .i64 cnt)) (x_load1 rfl underlying3 rfl ((Holds.rd H145_ 1 rfl) 1 (vI .i64 cnt) rfl)) ?_
      refine sv (v := (vI .i64 (IntKind.i64.wrap (cnt + 1)))) (x_bin rfl rfl rfl) ?_
      refine sv (v := (vQ tb)) (by kernel_rfl) ?_
      refine sv (v := (vP (some ⟨tb, 1, none⟩))) (by kernel_rfl) ?_
      refine S_list0 (T_store1 (v := (vI .i64 (IntKind.i64.wrap (cnt + 1)))) rfl rfl z3 rfl H145_ 1 rfl (Nat.le_of_ble_eq_true (by rfl)) ?_)
      intro w149_ S151_ H150_
      have S152_ := Same.trans S148_ S151_
      refine wpList_nil ?_
      refine R_0 rfl ?_
      have H153_ := Holds.pkF H150_ [0, 0, 0, 0] 2
      exact ⟨_, _, rfl, ⟨W141_, (inl ((⟨false, f36_p, f36_o⟩ : Fr K) :: f36_C)), (inr ((⟨false, f36_p, f36_o⟩ : Fr K) :: f36_C)), (⟨b18_, (Value.iface it ix), (Value.iface jt jx), (Value.iface vt vx), (Value.iface jt jx), 1, kb, ke, ke⟩ : ND K), rfl, rfl, (⟨he142_.1, he142_.2.1, he142_.2.2.2⟩), (he142_.2.2.1), (by rw [ino_plug]; simp [ino]), (⟨rfl, rfl, rfl, rfl, rfl⟩), (by rw [he142_.2.2.1]; exact ins_srt hway (by have := hs; rw [ino_plug] at this; simpa [ino] using this)), ((way_in (C := ((⟨false, f36_p, f36_o⟩ : Fr K) :: f36_C)) (M := []) hway (by have := hs; rw [ino_plug] at this; simpa [ino] using this)).1), ((way_in (C := ((⟨false, f36_p, f36_o⟩ : Fr K) :: f36_C)) (M := []) hway (by have := hs; rw [ino_plug] at this; simpa [ino] using this)).2)⟩, S152_, H153_⟩
    ·have c100_fp : ¬ (O.cm kb f36_p.kb = 0) := of_decide_eq_false c100_f
     refine C_reg ?_
     refine sm (vQ f36_p.a) ?_
     refine sm (vQ b18_) ?_
     refine sv (v := (vQ f36_p.a)) (by kernel_rfl) ?_
     refine sv (v := (vP (some ⟨f36_p.a, 5, none⟩))) (by kernel_rfl) ?_
     refine S_list0 (T_store1f (v := (vQ b18_)) rfl rfl z173 rfl H92_ 0 rfl (Nat.le_of_ble_eq_true (by rfl)) ?_)
     intro w154_ S156_ H155_
     have S157_ := Same.trans S94_ S156_
     refine wn (hK96_ _ _ ?_)
     refine C_reg ?_
     refine sm (vQ f36_p.a) ?_
     refine sm (vQ tb) ?_
     refine sv (v := (vQ tb)) (by kernel_rfl) ?_
     refine sv (v := (vP (some ⟨tb, 2, none⟩))) (by kernel_rfl) ?_
     refine sv (v := (vQ sb)) (x_load1 rfl underlying173 rfl ((Holds.rd H155_ 7 rfl) 2 (vQ sb) rfl)) ?_
     have H158_ := Holds.cons_cx (sb := sb) (f := (⟨false, f36_p, f36_o⟩ : Fr K)) (C := f36_C) (x := b18_) H155_
     have H159_ := H158_
     have H161_ := ((Holds.bring (Holds.bring (Holds.bring (Holds.bring H159_ 7 rfl) 1 rfl) 2 rfl) 5 rfl) :)
     refine S_list (T_call (al := [(vP (some ⟨(pa sb ((⟨false, f36_p, f36_o⟩ : Fr K) :: f36_C)), 0, none⟩)), (vQ sb)]) (pre := [hol (some ((⟨b18_, (Value.iface it ix), (Value.iface jt jx), (Value.iface vt vx), (Value.iface jt jx), 1, kb, ke, ke⟩ : ND K), sb, sb, f36_p.a)), cx sb (ha sb (some ((⟨b18_, (Value.iface it ix), (Value.iface jt jx), (Value.iface vt vx), (Value.iface jt jx), 1, kb, ke, ke⟩ : ND K), sb, sb, f36_p.a))) ((⟨false, f36_p, f36_o⟩ : Fr K) :: f36_C), clf sb 182 sc]) rfl (lcons ((by first | rfl | omega | (simp; done) | (simp; omega)) : (vQ f36_p.a) = (vP (some ⟨(pa sb ((⟨false, f36_p, f36_o⟩ : Fr K) :: f36_C)), 0, none⟩))) rfl) cb152 (itUpMax R K O sb sc (some ((⟨b18_, (Value.iface it ix), (Value.iface jt jx), (Value.iface vt vx), (Value.iface jt jx), 1, kb, ke, ke⟩ : ND K), sb, sb, f36_p.a)) ((⟨false, f36_p, f36_o⟩ : Fr K) :: f36_C) (hck_) (fun q hq => by cases hq; exact he)) H161_ ?_)
     rintro v160_ p165_ w162_ ⟨rfl, rfl⟩ S164_ H163_
     have S166_ := Same.trans S157_ S164_
     have H167_ := H163_
     refine wn (hK85_ _ _ ?_)
     refine cR fun _ hK168_ => ?_
     refine sm (vQ b18_) ?_
     refine sv (v := (vQ b18_)) (by kernel_rfl) ?_
     refine sv (v := (vP (some ⟨b18_, 7, none⟩))) (by kernel_rfl) ?_
     refine S_list0 (T_store1f (v := (vI .i64 1)) rfl rfl z180 rfl H167_ 1 rfl (Nat.le_of_ble_eq_true (by rfl)) ?_)
     intro w169_ S171_ H170_
     have S172_ := Same.trans S166_ S171_
     refine wn (hK168_ _ _ ?_)
     refine cR fun _ hK173_ => ?_
     refine sm (vQ tb) ?_
     refine sm (vQ b18_) ?_
     have H174_ := Holds.pkF H170_ [0, 0, 0, 0, 0, 0, 0] 1
     have H175_ : Holds w169_ (tr sb b18_ (Tr.lf : Tr K) :: ro R :: clf b18_ 182 [((Value.iface it ix)), ((Value.iface jt jx)), ((Value.iface vt vx)), ((Value.iface jt jx)), (vQ sb), (vQ sb), (vQ f36_p.a), (vI .i64 1)] :: cx sb b18_ (upC O (some ((Value.iface jt jx), ke)) ((⟨false, f36_p, f36_o⟩ : Fr K) :: f36_C)) :: clf sb 182 sc :: cl b10_ 177 [((Value.iface it ix)), ((Value.iface jt jx))] :: cl b2_ 177 [((Value.iface it ix)), ((Value.iface jt jx))] :: cl tb 185 [(vQ (ra f36_p.a f36_C)), (vI .i64 cnt), (vQ sb)] :: F) := Holds.lf_tr H174_
     have H176_ : Holds w169_ (tr sb b18_ (Tr.lf : Tr K) :: tr sb b18_ (Tr.lf : Tr K) :: ro R :: clf b18_ 182 [((Value.iface it ix)), ((Value.iface jt jx)), ((Value.iface vt vx)), ((Value.iface jt jx)), (vQ sb), (vQ sb), (vQ f36_p.a), (vI .i64 1)] :: cx sb b18_ (upC O (some ((Value.iface jt jx), ke)) ((⟨false, f36_p, f36_o⟩ : Fr K) :: f36_C)) :: clf sb 182 sc :: cl b10_ 177 [((Value.iface it ix)), ((Value.iface jt jx))] :: cl b2_ 177 [((Value.iface it ix)), ((Value.iface jt jx))] :: cl tb 185 [(vQ (ra f36_p.a f36_C)), (vI .i64 cnt), (vQ sb)] :: F) := Holds.lf_tr H175_
     have H177_ := ((Holds.bring (Holds.bring (Holds.bring H176_ 1 rfl) 1 rfl) 3 rfl) :)
     have H178_ := Holds.nd_tr (n := (⟨b18_, (Value.iface it ix), (Value.iface jt jx), (Value.iface vt vx), (Value.iface jt jx), 1, kb, ke, ke⟩ : ND K)) (a := (Tr.lf : Tr K)) (b := (Tr.lf : Tr K)) H177_
     have H179_ : Holds w169_ (tr sb (pa sb ((⟨false, f36_p, f36_o⟩ : Fr K) :: f36_C)) (Tr.nd (⟨b18_, (Value.iface it ix), (Value.iface jt jx), (Value.iface vt vx), (Value.iface jt jx), 1, kb, ke, ke⟩ : ND K) (Tr.lf : Tr K) (Tr.lf : Tr K)) :: ro R :: cx sb b18_ (upC O (some ((Value.iface jt jx), ke)) ((⟨false, f36_p, f36_o⟩ : Fr K) :: f36_C)) :: clf sb 182 sc :: cl b10_ 177 [((Value.iface it ix)), ((Value.iface jt jx))] :: cl b2_ 177 [((Value.iface it ix)), ((Value.iface jt jx))] :: cl tb 185 [(vP (some ⟨(ra b18_ ((⟨false, f36_p, f36_o⟩ : Fr K) :: f36_C)), 0, none⟩)), (vI .i64 cnt), (vQ sb)] :: F) := (H178_)
     have H180_ := H179_; rw [← pa_upC (O := O) sb ((⟨false, f36_p, f36_o⟩ : Fr K) :: f36_C) (some ((Value.iface jt jx), ke)), ← ra_upC O ((⟨false, f36_p, f36_o⟩ : Fr K) :: f36_C) b18_ (some ((Value.iface jt jx), ke))] at H180_
     have H181_ := H180_
     have hFx_ : FxI O R (inl ((⟨false, f36_p, f36_o⟩ : Fr K) :: f36_C) ++ (⟨b18_, (Value.iface it ix), (Value.iface jt jx), (Value.iface vt vx), (Value.iface jt jx), 1, kb, ke, ke⟩ : ND K).er :: inr ((⟨false, f36_p, f36_o⟩ : Fr K) :: f36_C)) (upC O (some ((Value.iface jt jx), ke)) ((⟨false, f36_p, f36_o⟩ : Fr K) :: f36_C)) (Tr.nd (⟨b18_, (Value.iface it ix), (Value.iface jt jx), (Value.iface vt vx), (Value.iface jt jx), 1, kb, ke, ke⟩ : ND K) (Tr.lf : Tr K) (Tr.lf : Tr K)) := ins_fx hW1 hCk hb he
     have H182_ := Holds.recl H181_ 6 rfl ((lcons ((by first | rfl | omega | (simp; done) | (simp; omega)) : (vP (some ⟨(ra b18_ (upC O (some ((Value.iface jt jx), ke)) ((⟨false, f36_p, f36_o⟩ : Fr K) :: f36_C))), 0, none⟩)) = (vP (some ⟨(ra (⟨b18_, (Value.iface it ix), (Value.iface jt jx), (Value.iface vt vx), (Value.iface jt jx), 1, kb, ke, ke⟩ : ND K).a (upC O (some ((Value.iface jt jx), ke)) ((⟨false, f36_p, f36_o⟩ : Fr K) :: f36_C))), 0, none⟩))) rfl) : [(vP (some ⟨(ra b18_ (upC O (some ((Value.iface jt jx), ke)) ((⟨false, f36_p, f36_o⟩ : Fr K) :: f36_C))), 0, none⟩)), (vI .i64 cnt), (vQ sb)] = [(vP (some ⟨(ra (⟨b18_, (Value.iface it ix), (Value.iface jt jx), (Value.iface vt vx), (Value.iface jt jx), 1, kb, ke, ke⟩ : ND K).a (upC O (some ((Value.iface jt jx), ke)) ((⟨false, f36_p, f36_o⟩ : Fr K) :: f36_C))), 0, none⟩)), (vI .i64 cnt), (vQ sb)])
     have eH183_ : cx sb b18_ (upC O (some ((Value.iface jt jx), ke)) ((⟨false, f36_p, f36_o⟩ : Fr K) :: f36_C)) = cx sb ((⟨b18_, (Value.iface it ix), (Value.iface jt jx), (Value.iface vt vx), (Value.iface jt jx), 1, kb, ke, ke⟩ : ND K).a) (upC O (some ((Value.iface jt jx), ke)) ((⟨false, f36_p, f36_o⟩ : Fr K) :: f36_C)) := by first | rfl | (congr 1 <;> first | rfl | omega | (simp; done) | (simp; omega))
     have H183_ : Holds w169_ (tr sb (pa sb (upC O (some ((Value.iface jt jx), ke)) ((⟨false, f36_p, f36_o⟩ : Fr K) :: f36_C))) (Tr.nd (⟨b18_, (Value.iface it ix), (Value.iface jt jx), (Value.iface vt vx), (Value.iface jt jx), 1, kb, ke, ke⟩ : ND K) (Tr.lf : Tr K) (Tr.lf : Tr K)) :: ro R :: cx sb ((⟨b18_, (Value.iface it ix), (Value.iface jt jx), (Value.iface vt vx), (Value.iface jt jx), 1, kb, ke, ke⟩ : ND K).a) (upC O (some ((Value.iface jt jx), ke)) ((⟨false, f36_p, f36_o⟩ : Fr K) :: f36_C)) :: clf sb 182 sc :: cl b10_ 177 [((Value.iface it ix)), ((Value.iface jt jx))] :: cl b2_ 177 [((Value.iface it ix)), ((Value.iface jt jx))] :: cl tb 185 [(vP (some ⟨(ra (⟨b18_, (Value.iface it ix), (Value.iface jt jx), (Value.iface vt vx), (Value.iface jt jx), 1, kb, ke, ke⟩ : ND K).a (upC O (some ((Value.iface jt jx), ke)) ((⟨false, f36_p, f36_o⟩ : Fr K) :: f36_C))), 0, none⟩)), (vI .i64 cnt), (vQ sb)] :: F) := cast1 (P := fun c__ => Holds w169_ (tr sb (pa sb (upC O (some ((Value.iface jt jx), ke)) ((⟨false, f36_p, f36_o⟩ : Fr K) :: f36_C))) (Tr.nd (⟨b18_, (Value.iface it ix), (Value.iface jt jx), (Value.iface vt vx), (Value.iface jt jx), 1, kb, ke, ke⟩ : ND K) (Tr.lf : Tr K) (Tr.lf : Tr K)) :: ro R :: c__ :: clf sb 182 sc :: cl b10_ 177 [((Value.iface it ix)), ((Value.iface jt jx))] :: cl b2_ 177 [((Value.iface it ix)), ((Value.iface jt jx))] :: cl tb 185 [(vP (some ⟨(ra (⟨b18_, (Value.iface it ix), (Value.iface jt jx), (Value.iface vt vx), (Value.iface jt jx), 1, kb, ke, ke⟩ : ND K).a (upC O (some ((Value.iface jt jx), ke)) ((⟨false, f36_p, f36_o⟩ : Fr K) :: f36_C))), 0, none⟩)), (vI .i64 cnt), (vQ sb)] :: F)) eH183_ H182_
     have H187_ := ((Holds.bring (Holds.bring (Holds.bring (Holds.bring (Holds.bring H183_ 3 rfl) 3 rfl) 2 rfl) 6 rfl) 4 rfl) :)
     refine S_list (T_call (al := [(vQ tb), (vP (some ⟨(⟨b18_, (Value.iface it ix), (Value.iface jt jx), (Value.iface vt vx), (Value.iface jt jx), 1, kb, ke, ke⟩ : ND K).a, 0, none⟩))]) (pre := [cl tb 185 [(vP (some ⟨(ra (⟨b18_, (Value.iface it ix), (Value.iface jt jx), (Value.iface vt vx), (Value.iface jt jx), 1, kb, ke, ke⟩ : ND K).a (upC O (some ((Value.iface jt jx), ke)) ((⟨false, f36_p, f36_o⟩ : Fr K) :: f36_C))), 0, none⟩)), (vI .i64 cnt), (vQ sb)], tr sb (pa sb (upC O (some ((Value.iface jt jx), ke)) ((⟨false, f36_p, f36_o⟩ : Fr K) :: f36_C))) (Tr.nd (⟨b18_, (Value.iface it ix), (Value.iface jt jx), (Value.iface vt vx), (Value.iface jt jx), 1, kb, ke, ke⟩ : ND K) (Tr.lf : Tr K) (Tr.lf : Tr K)), cx sb ((⟨b18_, (Value.iface it ix), (Value.iface jt jx), (Value.iface vt vx), (Value.iface jt jx), 1, kb, ke, ke⟩ : ND K).a) (upC O (some ((Value.iface jt jx), ke)) ((⟨false, f36_p, f36_o⟩ : Fr K) :: f36_C)), clf sb 182 sc]) rfl (lcons rfl (lcons ((by first | rfl | omega | (simp; done) | (simp; omega)) : (vQ b18_) = (vP (some ⟨(⟨b18_, (Value.iface it ix), (Value.iface jt jx), (Value.iface vt vx), (Value.iface jt jx), 1, kb, ke, ke⟩ : ND K).a, 0, none⟩))) rfl)) cb169 (itFix R K O tb sb cnt sc (⟨b18_, (Value.iface it ix), (Value.iface jt jx), (Value.iface vt vx), (Value.iface jt jx), 1, kb, ke, ke⟩ : ND K) (Tr.lf : Tr K) (Tr.lf : Tr K) (upC O (some ((Value.iface jt jx), ke)) ((⟨false, f36_p, f36_o⟩ : Fr K) :: f36_C)) (inl ((⟨false, f36_p, f36_o⟩ : Fr K) :: f36_C) ++ (⟨b18_, (Value.iface it ix), (Value.iface jt jx), (Value.iface vt vx), (Value.iface jt jx), 1, kb, ke, ke⟩ : ND K).er :: inr ((⟨false, f36_p, f36_o⟩ : Fr K) :: f36_C)) (hFx_)) H187_ ?_)
     rintro v184_ p191_ w188_ ⟨W185_, rfl, rfl, he186_⟩ S190_ H189_
     have S192_ := Same.trans S172_ S190_
     refine wn (hK173_ _ _ ?_)
     refine C_reg ?_
     refine sm (vQ tb) ?_
     refine sv (v := (vQ tb)) (by kernel_rfl) ?_
     refine sv (v := (vP (some ⟨tb, 1, none⟩))) (by kernel_rfl) ?_
     refine sv (v := (vI .i64 cnt)) (x_load1 rfl underlying3 rfl ((Holds.rd H189_ 1 rfl) 1 (vI .i64 cnt) rfl)) ?_
     refine sv (v := (vI .i64 (IntKind.i64.wrap (cnt + 1)))) (x_bin rfl rfl rfl) ?_
     refine sv (v := (vQ tb)) (by kernel_rfl) ?_
     refine sv (v := (vP (some ⟨tb, 1, none⟩))) (by kernel_rfl) ?_
     refine S_list0 (T_store1 (v := (vI .i64 (IntKind.i64.wrap (cnt + 1)))) rfl rfl z3 rfl H189_ 1 rfl (Nat.le_of_ble_eq_true (by rfl)) ?_)
     intro w193_ S195_ H194_
     have S196_ := Same.trans S192_ S195_
     refine wpList_nil ?_
     refine R_0 rfl ?_
     have H197_ := Holds.pkF H194_ [0, 0, 0, 0] 2
     exact ⟨_, _, rfl, ⟨W185_, (inl ((⟨false, f36_p, f36_o⟩ : Fr K) :: f36_C)), (inr ((⟨false, f36_p, f36_o⟩ : Fr K) :: f36_C)), (⟨b18_, (Value.iface it ix), (Value.iface jt jx), (Value.iface vt vx), (Value.iface jt jx), 1, kb, ke, ke⟩ : ND K), rfl, rfl, (⟨he186_.1, he186_.2.1, he186_.2.2.2⟩), (he186_.2.2.1), (by rw [ino_plug]; simp [ino]), (⟨rfl, rfl, rfl, rfl, rfl⟩), (by rw [he186_.2.2.1]; exact ins_srt hway (by have := hs; rw [ino_plug] at this; simpa [ino] using this)), ((way_in (C := ((⟨false, f36_p, f36_o⟩ : Fr K) :: f36_C)) (M := []) hway (by have := hs; rw [ino_plug] at this; simpa [ino] using this)).1), ((way_in (C := ((⟨false, f36_p, f36_o⟩ : Fr K) :: f36_C)) (M := []) hway (by have := hs; rw [ino_plug] at this; simpa [ino] using this)).2)⟩, S196_, H197_⟩
  ·skip
   subst hpl
   have H198_ := H34_; rw [show rt sb (plug ((⟨true, f36_p, f36_o⟩ : Fr K) :: f36_C) (Tr.lf : Tr K)) = ra f36_p.a f36_C from rt_plug sb f36_C f36_p (Tr.lf : Tr K) f36_o] at H198_
   have H199_ := H198_
   have H200_ := Holds.cx_cons H199_
   obtain ⟨ht_, hcx_⟩ : LocT O (Tr.lf : Tr K) ∧ LocC O none ((⟨true, f36_p, f36_o⟩ : Fr K) :: f36_C) := loc_unplug (C := ((⟨true, f36_p, f36_o⟩ : Fr K) :: f36_C)) (t := (Tr.lf : Tr K)) hW1.2.1
   have hck_ : COk O R ((⟨true, f36_p, f36_o⟩ : Fr K) :: f36_C) := hCk
   have hkp_ := (hck_ _ (List.mem_cons_self ..)).1
   have hw_ := hway.1; unfold bef at hw_; simp only [if_true, if_false, Bool.false_eq_true] at hw_
   refine sm (vQ b18_) ?_
   refine sm (vQ f36_p.a) ?_
   refine sv (v := (vQ b18_)) (by kernel_rfl) ?_
   refine sv (v := (vP (some ⟨b18_, 6, none⟩))) (by kernel_rfl) ?_
   refine S_list0 (T_store1f (v := (vQ f36_p.a)) rfl rfl z173 rfl H200_ 3 rfl (Nat.le_of_ble_eq_true (by rfl)) ?_)
   intro w201_ S203_ H202_
   have S204_ := Same.trans S30_ S203_
   refine wn (hK35_ _ _ ?_)
   refine C_seq (fun _ hK205_ => ?_)
   refine cR fun _ hK206_ => ?_
   refine sm (vQ f36_p.a) ?_
   refine sm (vQ tb) ?_
   refine sv (v := (vQ tb)) (by kernel_rfl) ?_
   refine sv (v := (vP (some ⟨tb, 2, none⟩))) (by kernel_rfl) ?_
   refine sv (v := (vQ sb)) (x_load1 rfl underlying173 rfl ((Holds.rd H202_ 7 rfl) 2 (vQ sb) rfl)) ?_
   have hpc207_ : f36_p.a ≠ sb := Holds.ne_f H202_ 0 rfl 9 rfl (by decide)
   refine sv (v := (vB false)) (x_cast (x_eqPN rfl rfl underlying173 z182 (by decide) (Holds.blk H202_ 0 rfl) (Holds.blk H202_ 9 rfl)) (congrArg vB (decide_eq_false hpc207_))) ?_
   refine wn (hK206_ _ _ ?_)
   refine C_condF rfl ?_
   refine C_seq (fun _ hK208_ => ?_)
   refine A_start (S := fun w => (Rd f36_p.a [f36_p.b, f36_p.e, f36_p.v, f36_p.mx, (vQ sb), (vQ (rt sb f36_o)), (vQ (pa sb f36_C)), (vI .i64 f36_p.c)] w ∧ Blk w f36_p.a) ∧ RtRd w (rt sb f36_o) (rmx f36_o) ∧ (Rd b18_ [((Value.iface it ix)), ((Value.iface jt jx)), ((Value.iface vt vx)), ((Value.iface jt jx)), (vQ sb), (vQ sb), (vQ f36_p.a), (vI .i64 1)] w ∧ Blk w b18_) ∧ RtRd w (rt sb (Tr.lf : Tr K)) (rmx (Tr.lf : Tr K)) ∧ Sub R (hp w)) (N := 16) foll rfl rfl ?_
   have H209_ := Holds.drew_ H202_
   have hq210_ := And.intro ((And.intro (Holds.rdf H209_ 0 rfl) (Holds.blk H209_ 0 rfl))) (And.intro (Holds.tr_rd H209_ 1 rfl 9 rfl) (And.intro ((And.intro (Holds.rdf H209_ 3 rfl) (Holds.blk H209_ 3 rfl))) (And.intro (Holds.tr_rd H209_ 8 rfl 9 rfl) ((Holds.ro_at H209_ 6 rfl)))))
   refine A_tk 0 (v := (vQ b18_)) rfl (by kernel_rfl) (fun w hS => x_move rfl) hq210_ ?_
   refine A_tk 1 (v := (vQ b18_)) rfl (by kernel_rfl) (fun w hS => by kernel_rfl) hq210_ ?_
   refine A_tk 2 (v := (vQ b18_)) rfl (by kernel_rfl) (fun w hS => by kernel_rfl) hq210_ ?_
   refine A_tk 3 (v := (vQ b18_)) rfl (by kernel_rfl) (fun w hS => by kernel_rfl) hq210_ ?_
   refine A_tk 4 (v := (vQ b18_)) rfl (by kernel_rfl) (fun w hS => by kernel_rfl) hq210_ ?_
   refine A_tk 5 (v := ((Value.iface it ix))) rfl (by kernel_rfl) (fun w hS => x_load1 rfl underlying175 rfl (hS.2.2.1.1 0 ((Value.iface it ix)) rfl)) hq210_ ?_
   refine A_tk 6 (v := (vQ f36_p.a)) rfl (by kernel_rfl) (fun w hS => x_move rfl) hq210_ ?_
   refine A_tk 7 (v := (vQ f36_p.a)) rfl (by kernel_rfl) (fun w hS => by kernel_rfl) hq210_ ?_
   refine A_tk 8 (v := (vQ f36_p.a)) rfl (by kernel_rfl) (fun w hS => by kernel_rfl) hq210_ ?_
   refine A_tk 9 (v := (vQ f36_p.a)) rfl (by kernel_rfl) (fun w hS => by kernel_rfl) hq210_ ?_
   refine A_tk 10 (v := (vQ f36_p.a)) rfl (by kernel_rfl) (fun w hS => by kernel_rfl) hq210_ ?_
   refine A_tk 11 (v := f36_p.b) rfl (by kernel_rfl) (fun w hS => x_load1 rfl underlying175 rfl (hS.1.1 0 f36_p.b rfl)) hq210_ ?_
   refine A_tk 12 (v := ((Value.iface it ix))) rfl (by kernel_rfl) (fun w hS => by kernel_rfl) hq210_ ?_
   refine A_tk 13 (v := ((Value.iface it ix))) rfl (by kernel_rfl) (fun w hS => x_move rfl) hq210_ ?_
   refine A_ready (i := 14) (rs := []) (by kernel_rfl) ?_
   refine AllR.cons ?_ AllR.nil
   refine A_op (ls' := #[true, true, true, true, true, true, true, true, true, true, true, true, true, true, true, false]) rfl (by kernel_rfl) (T_cmp rfl rfl (O.cmp hb (hkp_.b)) H209_ 6 rfl ?_)
   intro w211_ S213_ H212_
   have S214_ := Same.trans (Same.trans S204_ (Same.drew _)) S213_
   refine ⟨⟨(And.intro (Holds.rdf H212_ 0 rfl) (Holds.blk H212_ 0 rfl)), Holds.tr_rd H212_ 1 rfl 9 rfl, (And.intro (Holds.rdf H212_ 3 rfl) (Holds.blk H212_ 3 rfl)), Holds.tr_rd H212_ 8 rfl 9 rfl, (Holds.ro_at H212_ 6 rfl)⟩, ?_⟩
   have hq215_ := And.intro ((And.intro (Holds.rdf H212_ 0 rfl) (Holds.blk H212_ 0 rfl))) (And.intro (Holds.tr_rd H212_ 1 rfl 9 rfl) (And.intro ((And.intro (Holds.rdf H212_ 3 rfl) (Holds.blk H212_ 3 rfl))) (And.intro (Holds.tr_rd H212_ 8 rfl 9 rfl) ((Holds.ro_at H212_ 6 rfl)))))
   refine A_tk 15 (v := (vI .i64 (O.cm kb f36_p.kb))) rfl (by kernel_rfl) (fun w hS => x_assign rfl) hq215_ ?_
   refine A_done (by kernel_rfl) ?_
   refine (X_then (hK208_ _ _ ?_))
   refine C_seq (fun _ hK216_ => ?_)
   refine cR fun _ hK217_ => ?_
   refine sm (vI .i64 (O.cm kb f36_p.kb)) ?_
   refine sv (v := (vB (decide (O.cm kb f36_p.kb < 0)))) (x_bin rfl rfl rfl) ?_
   refine wn (hK217_ _ _ ?_)
   refine C_cond (b := decide (O.cm kb f36_p.kb < 0)) rfl (fun c218_t => ?_) (fun c218_f => ?_)
   ·have c218_tp : O.cm kb f36_p.kb < 0 := of_decide_eq_true c218_t
    refine C_reg ?_
    refine sm (vQ f36_p.a) ?_
    refine sm (vQ b18_) ?_
    refine sv (v := (vQ f36_p.a)) (by kernel_rfl) ?_
    refine sv (v := (vP (some ⟨f36_p.a, 4, none⟩))) (by kernel_rfl) ?_
    refine S_list0 (T_store1f (v := (vQ b18_)) rfl rfl z173 rfl H212_ 0 rfl (Nat.le_of_ble_eq_true (by rfl)) ?_)
    intro w219_ S221_ H220_
    have S222_ := Same.trans S214_ S221_
    refine wn (hK216_ _ _ ?_)
    refine C_reg ?_
    refine sm (vQ f36_p.a) ?_
    refine sm (vQ tb) ?_
    refine sv (v := (vQ tb)) (by kernel_rfl) ?_
    refine sv (v := (vP (some ⟨tb, 2, none⟩))) (by kernel_rfl) ?_
    refine sv (v := (vQ sb)) (x_load1 rfl underlying173 rfl ((Holds.rd H220_ 7 rfl) 2 (vQ sb) rfl)) ?_
    have H223_ := Holds.cons_cx (sb := sb) (f := (⟨true, f36_p, f36_o⟩ : Fr K)) (C := f36_C) (x := b18_) H220_
    have H224_ := H223_
    have H226_ := ((Holds.bring (Holds.bring (Holds.bring (Holds.bring H224_ 7 rfl) 1 rfl) 2 rfl) 5 rfl) :)
    refine S_list (T_call (al := [(vP (some ⟨(pa sb ((⟨true, f36_p, f36_o⟩ : Fr K) :: f36_C)), 0, none⟩)), (vQ sb)]) (pre := [hol (some ((⟨b18_, (Value.iface it ix), (Value.iface jt jx), (Value.iface vt vx), (Value.iface jt jx), 1, kb, ke, ke⟩ : ND K), sb, sb, f36_p.a)), cx sb (ha sb (some ((⟨b18_, (Value.iface it ix), (Value.iface jt jx), (Value.iface vt vx), (Value.iface jt jx), 1, kb, ke, ke⟩ : ND K), sb, sb, f36_p.a))) ((⟨true, f36_p, f36_o⟩ : Fr K) :: f36_C), clf sb 182 sc]) rfl (lcons ((by first | rfl | omega | (simp; done) | (simp; omega)) : (vQ f36_p.a) = (vP (some ⟨(pa sb ((⟨true, f36_p, f36_o⟩ : Fr K) :: f36_C)), 0, none⟩))) rfl) cb152 (itUpMax R K O sb sc (some ((⟨b18_, (Value.iface it ix), (Value.iface jt jx), (Value.iface vt vx), (Value.iface jt jx), 1, kb, ke, ke⟩ : ND K), sb, sb, f36_p.a)) ((⟨true, f36_p, f36_o⟩ : Fr K) :: f36_C) (hck_) (fun q hq => by cases hq; exact he)) H226_ ?_)
    rintro v225_ p230_ w227_ ⟨rfl, rfl⟩ S229_ H228_
    have S231_ := Same.trans S222_ S229_
    have H232_ := H228_
    refine wn (hK205_ _ _ ?_)
    refine cR fun _ hK233_ => ?_
    refine sm (vQ b18_) ?_
    refine sv (v := (vQ b18_)) (by kernel_rfl) ?_
    refine sv (v := (vP (some ⟨b18_, 7, none⟩))) (by kernel_rfl) ?_
    refine S_list0 (T_store1f (v := (vI .i64 1)) rfl rfl z180 rfl H232_ 1 rfl (Nat.le_of_ble_eq_true (by rfl)) ?_)
    intro w234_ S236_ H235_
    have S237_ := Same.trans S231_ S236_
    refine wn (hK233_ _ _ ?_)
    refine cR fun _ hK238_ => ?_
    refine sm (vQ tb) ?_
    refine sm (vQ b18_) ?_
    have H239_ := Holds.pkF H235_ [0, 0, 0, 0, 0, 0, 0] 1
    have H240_ : Holds w234_ (tr sb b18_ (Tr.lf : Tr K) :: ro R :: clf b18_ 182 [((Value.iface it ix)), ((Value.iface jt jx)), ((Value.iface vt vx)), ((Value.iface jt jx)), (vQ sb), (vQ sb), (vQ f36_p.a), (vI .i64 1)] :: cx sb b18_ (upC O (some ((Value.iface jt jx), ke)) ((⟨true, f36_p, f36_o⟩ : Fr K) :: f36_C)) :: clf sb 182 sc :: cl b10_ 177 [((Value.iface it ix)), ((Value.iface jt jx))] :: cl b2_ 177 [((Value.iface it ix)), ((Value.iface jt jx))] :: cl tb 185 [(vQ (ra f36_p.a f36_C)), (vI .i64 cnt), (vQ sb)] :: F) := Holds.lf_tr H239_
    have H241_ : Holds w234_ (tr sb b18_ (Tr.lf : Tr K) :: tr sb b18_ (Tr.lf : Tr K) :: ro R :: clf b18_ 182 [((Value.iface it ix)), ((Value.iface jt jx)), ((Value.iface vt vx)), ((Value.iface jt jx)), (vQ sb), (vQ sb), (vQ f36_p.a), (vI .i64 1)] :: cx sb b18_ (upC O (some ((Value.iface jt jx), ke)) ((⟨true, f36_p, f36_o⟩ : Fr K) :: f36_C)) :: clf sb 182 sc :: cl b10_ 177 [((Value.iface it ix)), ((Value.iface jt jx))] :: cl b2_ 177 [((Value.iface it ix)), ((Value.iface jt jx))] :: cl tb 185 [(vQ (ra f36_p.a f36_C)), (vI .i64 cnt), (vQ sb)] :: F) := Holds.lf_tr H240_
    have H242_ := ((Holds.bring (Holds.bring (Holds.bring H241_ 1 rfl) 1 rfl) 3 rfl) :)
    have H243_ := Holds.nd_tr (n := (⟨b18_, (Value.iface it ix), (Value.iface jt jx), (Value.iface vt vx), (Value.iface jt jx), 1, kb, ke, ke⟩ : ND K)) (a := (Tr.lf : Tr K)) (b := (Tr.lf : Tr K)) H242_
    have H244_ : Holds w234_ (tr sb (pa sb ((⟨true, f36_p, f36_o⟩ : Fr K) :: f36_C)) (Tr.nd (⟨b18_, (Value.iface it ix), (Value.iface jt jx), (Value.iface vt vx), (Value.iface jt jx), 1, kb, ke, ke⟩ : ND K) (Tr.lf : Tr K) (Tr.lf : Tr K)) :: ro R :: cx sb b18_ (upC O (some ((Value.iface jt jx), ke)) ((⟨true, f36_p, f36_o⟩ : Fr K) :: f36_C)) :: clf sb 182 sc :: cl b10_ 177 [((Value.iface it ix)), ((Value.iface jt jx))] :: cl b2_ 177 [((Value.iface it ix)), ((Value.iface jt jx))] :: cl tb 185 [(vP (some ⟨(ra b18_ ((⟨true, f36_p, f36_o⟩ : Fr K) :: f36_C)), 0, none⟩)), (vI .i64 cnt), (vQ sb)] :: F) := (H243_)
    have H245_ := H244_; rw [← pa_upC (O := O) sb ((⟨true, f36_p, f36_o⟩ : Fr K) :: f36_C) (some ((Value.iface jt jx), ke)), ← ra_upC O ((⟨true, f36_p, f36_o⟩ : Fr K) :: f36_C) b18_ (some ((Value.iface jt jx), ke))] at H245_
    have H246_ := H245_
    have hFx_ : FxI O R (inl ((⟨true, f36_p, f36_o⟩ : Fr K) :: f36_C) ++ (⟨b18_, (Value.iface it ix), (Value.iface jt jx), (Value.iface vt vx), (Value.iface jt jx), 1, kb, ke, ke⟩ : ND K).er :: inr ((⟨true, f36_p, f36_o⟩ : Fr K) :: f36_C)) (upC O (some ((Value.iface jt jx), ke)) ((⟨true, f36_p, f36_o⟩ : Fr K) :: f36_C)) (Tr.nd (⟨b18_, (Value.iface it ix), (Value.iface jt jx), (Value.iface vt vx), (Value.iface jt jx), 1, kb, ke, ke⟩ : ND K) (Tr.lf : Tr K) (Tr.lf : Tr K)) := ins_fx hW1 hCk hb he
    have H247_ := Holds.recl H246_ 6 rfl ((lcons ((by first | rfl | omega | (simp; done) | (simp; omega)) : (vP (some ⟨(ra b18_ (upC O (some ((Value.iface jt jx), ke)) ((⟨true, f36_p, f36_o⟩ : Fr K) :: f36_C))), 0, none⟩)) = (vP (some ⟨(ra (⟨b18_, (Value.iface it ix), (Value.iface jt jx), (Value.iface vt vx), (Value.iface jt jx), 1, kb, ke, ke⟩ : ND K).a (upC O (some ((Value.iface jt jx), ke)) ((⟨true, f36_p, f36_o⟩ : Fr K) :: f36_C))), 0, none⟩))) rfl) : [(vP (some ⟨(ra b18_ (upC O (some ((Value.iface jt jx), ke)) ((⟨true, f36_p, f36_o⟩ : Fr K) :: f36_C))), 0, none⟩)), (vI .i64 cnt), (vQ sb)] = [(vP (some ⟨(ra (⟨b18_, (Value.iface it ix), (Value.iface jt jx), (Value.iface vt vx), (Value.iface jt jx), 1, kb, ke, ke⟩ : ND K).a (upC O (some ((Value.iface jt jx), ke)) ((⟨true, f36_p, f36_o⟩ : Fr K) :: f36_C))), 0, none⟩)), (vI .i64 cnt), (vQ sb)])
    have eH248_ : cx sb b18_ (upC O (some ((Value.iface jt jx), ke)) ((⟨true, f36_p, f36_o⟩ : Fr K) :: f36_C)) = cx sb ((⟨b18_, (Value.iface it ix), (Value.iface jt jx), (Value.iface vt vx), (Value.iface jt jx), 1, kb, ke, ke⟩ : ND K).a) (upC O (some ((Value.iface jt jx), ke)) ((⟨true, f36_p, f36_o⟩ : Fr K) :: f36_C)) := by first | rfl | (congr 1 <;> first | rfl | omega | (simp; done) | (simp; omega))
    have H248_ : Holds w234_ (tr sb (pa sb (upC O (some ((Value.iface jt jx), ke)) ((⟨true, f36_p, f36_o⟩ : Fr K) :: f36_C))) (Tr.nd (⟨b18_, (Value.iface it ix), (Value.iface jt jx), (Value.iface vt vx), (Value.iface jt jx), 1, kb, ke, ke⟩ : ND K) (Tr.lf : Tr K) (Tr.lf : Tr K)) :: ro R :: cx sb ((⟨b18_, (Value.iface it ix), (Value.iface jt jx), (Value.iface vt vx), (Value.iface jt jx), 1, kb, ke, ke⟩ : ND K).a) (upC O (some ((Value.iface jt jx), ke)) ((⟨true, f36_p, f36_o⟩ : Fr K) :: f36_C)) :: clf sb 182 sc :: cl b10_ 177 [((Value.iface it ix)), ((Value.iface jt jx))] :: cl b2_ 177 [((Value.iface it ix)), ((Value.iface jt jx))] :: cl tb 185 [(vP (some ⟨(ra (⟨b18_, (Value.iface it ix), (Value.iface jt jx), (Value.iface vt vx), (Value.iface jt jx), 1, kb, ke, ke⟩ : ND K).a (upC O (some ((Value.iface jt jx), ke)) ((⟨true, f36_p, f36_o⟩ : Fr K) :: f36_C))), 0, none⟩)), (vI .i64 cnt), (vQ sb)] :: F) := cast1 (P := fun c__ => Holds w234_ (tr sb (pa sb (upC O (some ((Value.iface jt jx), ke)) ((⟨true, f36_p, f36_o⟩ : Fr K) :: f36_C))) (Tr.nd (⟨b18_, (Value.iface it ix), (Value.iface jt jx), (Value.iface vt vx), (Value.iface jt jx), 1, kb, ke, ke⟩ : ND K) (Tr.lf : Tr K) (Tr.lf : Tr K)) :: ro R :: c__ :: clf sb 182 sc :: cl b10_ 177 [((Value.iface it ix)), ((Value.iface jt jx))] :: cl b2_ 177 [((Value.iface it ix)), ((Value.iface jt jx))] :: cl tb 185 [(vP (some ⟨(ra (⟨b18_, (Value.iface it ix), (Value.iface jt jx), (Value.iface vt vx), (Value.iface jt jx), 1, kb, ke, ke⟩ : ND K).a (upC O (some ((Value.iface jt jx), ke)) ((⟨true, f36_p, f36_o⟩ : Fr K) :: f36_C))), 0, none⟩)), (vI .i64 cnt), (vQ sb)] :: F)) eH248_ H247_
    have H252_ := ((Holds.bring (Holds.bring (Holds.bring (Holds.bring (Holds.bring H248_ 3 rfl) 3 rfl) 2 rfl) 6 rfl) 4 rfl) :)
    refine S_list (T_call (al := [(vQ tb), (vP (some ⟨(⟨b18_, (Value.iface it ix), (Value.iface jt jx), (Value.iface vt vx), (Value.iface jt jx), 1, kb, ke, ke⟩ : ND K).a, 0, none⟩))]) (pre := [cl tb 185 [(vP (some ⟨(ra (⟨b18_, (Value.iface it ix), (Value.iface jt jx), (Value.iface vt vx), (Value.iface jt jx), 1, kb, ke, ke⟩ : ND K).a (upC O (some ((Value.iface jt jx), ke)) ((⟨true, f36_p, f36_o⟩ : Fr K) :: f36_C))), 0, none⟩)), (vI .i64 cnt), (vQ sb)], tr sb (pa sb (upC O (some ((Value.iface jt jx), ke)) ((⟨true, f36_p, f36_o⟩ : Fr K) :: f36_C))) (Tr.nd (⟨b18_, (Value.iface it ix), (Value.iface jt jx), (Value.iface vt vx), (Value.iface jt jx), 1, kb, ke, ke⟩ : ND K) (Tr.lf : Tr K) (Tr.lf : Tr K)), cx sb ((⟨b18_, (Value.iface it ix), (Value.iface jt jx), (Value.iface vt vx), (Value.iface jt jx), 1, kb, ke, ke⟩ : ND K).a) (upC O (some ((Value.iface jt jx), ke)) ((⟨true, f36_p, f36_o⟩ : Fr K) :: f36_C)), clf sb 182 sc]) rfl (lcons rfl (lcons ((by first | rfl | omega | (simp; done) | (simp; omega)) : (vQ b18_) = (vP (some ⟨(⟨b18_, (Value.iface it ix), (Value.iface jt jx), (Value.iface vt vx), (Value.iface jt jx), 1, kb, ke, ke⟩ : ND K).a, 0, none⟩))) rfl)) cb169 (itFix R K O tb sb cnt sc (⟨b18_, (Value.iface it ix), (Value.iface jt jx), (Value.iface vt vx), (Value.iface jt jx), 1, kb, ke, ke⟩ : ND K) (Tr.lf : Tr K) (Tr.lf : Tr K) (upC O (some ((Value.iface jt jx), ke)) ((⟨true, f36_p, f36_o⟩ : Fr K) :: f36_C)) (inl ((⟨true, f36_p, f36_o⟩ : Fr K) :: f36_C) ++ (⟨b18_, (Value.iface it ix), (Value.iface jt jx), (Value.iface vt vx), (Value.iface jt jx), 1, kb, ke, ke⟩ : ND K).er :: inr ((⟨true, f36_p, f36_o⟩ : Fr K) :: f36_C)) (hFx_)) H252_ ?_)
    rintro v249_ p256_ w253_ ⟨W250_, rfl, rfl, he251_⟩ S255_ H254_
    have S257_ := Same.trans S237_ S255_
    refine wn (hK238_ _ _ ?_)
    refine C_reg ?_
    refine sm (vQ tb) ?_
    refine sv (v := (vQ tb)) (by kernel_rfl) ?_
    refine sv (v := (vP (some ⟨tb, 1, none⟩))) (by kernel_rfl) ?_
    refine sv (v := (vI .i64 cnt)) (x_load1 rfl underlying3 rfl ((Holds.rd H254_ 1 rfl) 1 (vI .i64 cnt) rfl)) ?_
    refine sv (v := (vI .i64 (IntKind.i64.wrap (cnt + 1)))) (x_bin rfl rfl rfl) ?_
    refine sv (v := (vQ tb)) (by kernel_rfl) ?_
    refine sv (v := (vP (some ⟨tb, 1, none⟩))) (by kernel_rfl) ?_
    refine S_list0 (T_store1 (v := (vI .i64 (IntKind.i64.wrap (cnt + 1)))) rfl rfl z3 rfl H254_ 1 rfl (Nat.le_of_ble_eq_true (by rfl)) ?_)
    intro w258_ S260_ H259_
    have S261_ := Same.trans S257_ S260_
    refine wpList_nil ?_
    refine R_0 rfl ?_
    have H262_ := Holds.pkF H259_ [0, 0, 0, 0] 2
    exact ⟨_, _, rfl, ⟨W250_, (inl ((⟨true, f36_p, f36_o⟩ : Fr K) :: f36_C)), (inr ((⟨true, f36_p, f36_o⟩ : Fr K) :: f36_C)), (⟨b18_, (Value.iface it ix), (Value.iface jt jx), (Value.iface vt vx), (Value.iface jt jx), 1, kb, ke, ke⟩ : ND K), rfl, rfl, (⟨he251_.1, he251_.2.1, he251_.2.2.2⟩), (he251_.2.2.1), (by rw [ino_plug]; simp [ino]), (⟨rfl, rfl, rfl, rfl, rfl⟩), (by rw [he251_.2.2.1]; exact ins_srt hway (by have := hs; rw [ino_plug] at this; simpa [ino] using this)), ((way_in (C := ((⟨true, f36_p, f36_o⟩ : Fr K) :: f36_C)) (M := []) hway (by have := hs; rw [ino_plug] at this; simpa [ino] using this)).1), ((way_in (C := ((⟨true, f36_p, f36_o⟩ : Fr K) :: f36_C)) (M := []) hway (by have := hs; rw [ino_plug] at this; simpa [ino] using this)).2)⟩, S261_, H262_⟩
   ·have c218_fp : ¬ (O.cm kb f36_p.kb < 0) := of_decide_eq_false c218_f
    refine cR fun _ hK263_ => ?_
    refine sm (vI .i64 (O.cm kb f36_p.kb)) ?_
    refine sv (v := (vB (decide (O.cm kb f36_p.kb = 0)))) (x_bin rfl rfl rfl) ?_
    refine wn (hK263_ _ _ ?_)
    refine C_cond (b := decide (O.cm kb f36_p.kb = 0)) rfl (fun c264_t => ?_) (fun c264_f => ?_)
    ·have c264_tp : O.cm kb f36_p.kb = 0 := of_decide_eq_true c264_t
     refine C_seq (fun _ hK265_ => ?_)
     refine A_start (S := fun w => (Rd f36_p.a [f36_p.b, f36_p.e, f36_p.v, f36_p.mx, (vQ sb), (vQ (rt sb f36_o)), (vQ (pa sb f36_C)), (vI .i64 f36_p.c)] w ∧ Blk w f36_p.a) ∧ RtRd w (rt sb f36_o) (rmx f36_o) ∧ (Rd b18_ [((Value.iface it ix)), ((Value.iface jt jx)), ((Value.iface vt vx)), ((Value.iface jt jx)), (vQ sb), (vQ sb), (vQ f36_p.a), (vI .i64 1)] w ∧ Blk w b18_) ∧ RtRd w (rt sb (Tr.lf : Tr K)) (rmx (Tr.lf : Tr K)) ∧ Sub R (hp w)) (N := 16) foll rfl rfl ?_
     have H266_ := Holds.drew_ H212_
     have hq267_ := And.intro ((And.intro (Holds.rdf H266_ 0 rfl) (Holds.blk H266_ 0 rfl))) (And.intro (Holds.tr_rd H266_ 1 rfl 9 rfl) (And.intro ((And.intro (Holds.rdf H266_ 3 rfl) (Holds.blk H266_ 3 rfl))) (And.intro (Holds.tr_rd H266_ 8 rfl 9 rfl) ((Holds.ro_at H266_ 6 rfl)))))
     refine A_tk 0 (v := (vQ b18_)) rfl (by kernel_rfl) (fun w hS => x_move rfl) hq267_ ?_
     refine A_tk 1 (v := (vQ b18_)) rfl (by kernel_rfl) (fun w hS => by kernel_rfl) hq267_ ?_
     refine A_tk 2 (v := (vQ b18_)) rfl (by kernel_rfl) (fun w hS => by kernel_rfl) hq267_ ?_
     refine A_tk 3 (v := (vQ b18_)) rfl (by kernel_rfl) (fun w hS => by kernel_rfl) hq267_ ?_
     refine A_tk 4 (v := (vP (some ⟨b18_, 1, none⟩))) rfl (by kernel_rfl) (fun w hS => by kernel_rfl) hq267_ ?_
     refine A_tk 5 (v := ((Value.iface jt jx))) rfl (by kernel_rfl) (fun w hS => x_load1 rfl underlying175 rfl (hS.2.2.1.1 1 ((Value.iface jt jx)) rfl)) hq267_ ?_
     refine A_tk 6 (v := (vQ f36_p.a)) rfl (by kernel_rfl) (fun w hS => x_move rfl) hq267_ ?_
     refine A_tk 7 (v := (vQ f36_p.a)) rfl (by kernel_rfl) (fun w hS => by kernel_rfl) hq267_ ?_
     refine A_tk 8 (v := (vQ f36_p.a)) rfl (by kernel_rfl) (fun w hS => by kernel_rfl) hq267_ ?_
     refine A_tk 9 (v := (vQ f36_p.a)) rfl (by kernel_rfl) (fun w hS => by kernel_rfl) hq267_ ?_
     refine A_tk 10 (v := (vP (some ⟨f36_p.a, 1, none⟩))) rfl (by kernel_rfl) (fun w hS => by kernel_rfl) hq267_ ?_
     refine A_tk 11 (v := f36_p.e) rfl (by kernel_rfl) (fun w hS => x_load1 rfl underlying175 rfl (hS.1.1 1 f36_p.e rfl)) hq267_ ?_
     refine A_tk 12 (v := ((Value.iface jt jx))) rfl (by kernel_rfl) (fun w hS => by kernel_rfl) hq267_ ?_
     refine A_tk 13 (v := ((Value.iface jt jx))) rfl (by kernel_rfl) (fun w hS => x_move rfl) hq267_ ?_
     refine A_ready (i := 14) (rs := []) (by kernel_rfl) ?_
     refine AllR.cons ?_ AllR.nil
     refine A_op (ls' := #[true, true, true, true, true, true, true, true, true, true, true, true, true, true, true, false]) rfl (by kernel_rfl) (T_cmp rfl rfl (O.cmp he (hkp_.e)) H266_ 6 rfl ?_)
     intro w268_ S270_ H269_
     have S271_ := Same.trans (Same.trans S214_ (Same.drew _)) S270_
     refine ⟨⟨(And.intro (Holds.rdf H269_ 0 rfl) (Holds.blk H269_ 0 rfl)), Holds.tr_rd H269_ 1 rfl 9 rfl, (And.intro (Holds.rdf H269_ 3 rfl) (Holds.blk H269_ 3 rfl)), Holds.tr_rd H269_ 8 rfl 9 rfl, (Holds.ro_at H269_ 6 rfl)⟩, ?_⟩
     have hq272_ := And.intro ((And.intro (Holds.rdf H269_ 0 rfl) (Holds.blk H269_ 0 rfl))) (And.intro (Holds.tr_rd H269_ 1 rfl 9 rfl) (And.intro ((And.intro (Holds.rdf H269_ 3 rfl) (Holds.blk H269_ 3 rfl))) (And.intro (Holds.tr_rd H269_ 8 rfl 9 rfl) ((Holds.ro_at H269_ 6 rfl)))))
     refine A_tk 15 (v := (vB (decide (O.cm ke f36_p.ke < 0)))) rfl (by kernel_rfl) (fun w hS => x_bin rfl rfl rfl) hq272_ ?_
     refine A_done (by kernel_rfl) ?_
     refine (X_then (hK265_ _ _ ?_))
     refine C_cond (b := decide (O.cm ke f36_p.ke < 0)) rfl (fun c273_t => ?_) (fun c273_f => ?_)
     ·have c273_tp : O.cm ke f36_p.ke < 0 := of_decide_eq_true c273_t
      refine C_reg ?_
      refine sm (vQ f36_p.a) ?_
      refine sm (vQ b18_) ?_
      refine sv (v := (vQ f36_p.a)) (by kernel_rfl) ?_
      refine sv (v := (vP (some ⟨f36_p.a, 4, none⟩))) (by kernel_rfl) ?_
      refine S_list0 (T_store1f (v := (vQ b18_)) rfl rfl z173 rfl H269_ 0 rfl (Nat.le_of_ble_eq_true (by rfl)) ?_)
      intro w274_ S276_ H275_
      have S277_ := Same.trans S271_ S276_
      refine wn (hK216_ _ _ ?_)
      refine C_reg ?_
      refine sm (vQ f36_p.a) ?_
      refine sm (vQ tb) ?_
      refine sv (v := (vQ tb)) (by kernel_rfl) ?_
      refine sv (v := (vP (some ⟨tb, 2, none⟩))) (by kernel_rfl) ?_
      refine sv (v := (vQ sb)) (x_load1 rfl underlying173 rfl ((Holds.rd H275_ 7 rfl) 2 (vQ sb) rfl)) ?_
      have H278_ := Holds.cons_cx (sb := sb) (f := (⟨true, f36_p, f36_o⟩ : Fr K)) (C := f36_C) (x := b18_) H275_
      have H279_ := H278_
      have H281_ := ((Holds.bring (Holds.bring (Holds.bring (Holds.bring H279_ 7 rfl) 1 rfl) 2 rfl) 5 rfl) :)
      refine S_list (T_call (al := [(vP (some ⟨(pa sb ((⟨true, f36_p, f36_o⟩ : Fr K) :: f36_C)), 0, none⟩)), (vQ sb)]) (pre := [hol (some ((⟨b18_, (Value.iface it ix), (Value.iface jt jx), (Value.iface vt vx), (Value.iface jt jx), 1, kb, ke, ke⟩ : ND K), sb, sb, f36_p.a)), cx sb (ha sb (some ((⟨b18_, (Value.iface it ix), (Value.iface jt jx), (Value.iface vt vx), (Value.iface jt jx), 1, kb, ke, ke⟩ : ND K), sb, sb, f36_p.a))) ((⟨true, f36_p, f36_o⟩ : Fr K) :: f36_C), clf sb 182 sc]) rfl (lcons ((by first | rfl | omega | (simp; done) | (simp; omega)) : (vQ f36_p.a) = (vP (some ⟨(pa sb ((⟨true, f36_p, f36_o⟩ : Fr K) :: f36_C)), 0, none⟩))) rfl) cb152 (itUpMax R K O sb sc (some ((⟨b18_, (Value.iface it ix), (Value.iface jt jx), (Value.iface vt vx), (Value.iface jt jx), 1, kb, ke, ke⟩ : ND K), sb, sb, f36_p.a)) ((⟨true, f36_p, f36_o⟩ : Fr K) :: f36_C) (hck_) (fun q hq => by cases hq; exact he)) H281_ ?_)
      rintro v280_ p285_ w282_ ⟨rfl, rfl⟩ S284_ H283_
      have S286_ := Same.trans S277_ S284_
      have H287_ := H283_
      refine wn (hK205_ _ _ ?_)
      refine cR fun _ hK288_ => ?_
      refine sm (vQ b18_) ?_
      refine sv (v := (vQ b18_)) (by kernel_rfl) ?_
      refine sv (v := (vP (some ⟨b18_, 7, none⟩))) (by kernel_rfl) ?_
      refine S_list0 (T_store1f (v := (vI .i64 1)) rfl rfl z180 rfl H287_ 1 rfl (Nat.le_of_ble_eq_true (by rfl)) ?_)
      intro w289_ S291_ H290_
      have S292_ := Same.trans S286_ S291_
      refine wn (hK288_ _ _ ?_)
      refine cR fun _ hK293_ => ?_
      refine sm (vQ tb) ?_
      refine sm (vQ b18_) ?_
      have H294_ := Holds.pkF H290_ [0, 0, 0, 0, 0, 0, 0] 1
      have H295_ : Holds w289_ (tr sb b18_ (Tr.lf : Tr K) :: ro R :: clf b18_ 182 [((Value.iface it ix)), ((Value.iface jt jx)), ((Value.iface vt vx)), ((Value.iface jt jx)), (vQ sb), (vQ sb), (vQ f36_p.a), (vI .i64 1)] :: cx sb b18_ (upC O (some ((Value.iface jt jx), ke)) ((⟨true, f36_p, f36_o⟩ : Fr K) :: f36_C)) :: clf sb 182 sc :: cl b10_ 177 [((Value.iface it ix)), ((Value.iface jt jx))] :: cl b2_ 177 [((Value.iface it ix)), ((Value.iface jt jx))] :: cl tb 185 [(vQ (ra f36_p.a f36_C)), (vI .i64 cnt), (vQ sb)] :: F) := Holds.lf_tr H294_
      have H296_ : Holds w289_ (tr sb b18_ (Tr.lf : Tr K) :: tr sb b18_ (Tr.lf : Tr K) :: ro R :: clf b18_ 182 [((Value.iface it ix)), ((Value.iface jt jx)), ((Value.iface vt vx)), ((Value.iface jt jx)), (vQ sb), (vQ sb), (vQ f36_p.a), (vI .i64 1)] :: cx sb b18_ (upC O (some ((Value.iface jt jx), ke)) ((⟨true, f36_p, f36_o⟩ : Fr K) :: f36_C)) :: clf sb 182 sc :: cl b10_ 177 [((Value.iface it ix)), ((Value.iface jt jx))] :: cl b2_ 177 [((Value.iface it ix)), ((Value.iface jt jx))] :: cl tb 185 [(vQ (ra f36_p.a f36_C)), (vI .i64 cnt), (vQ sb)] :: F) := Holds.lf_tr H295_
      have H297_ := ((Holds.bring (Holds.bring (Holds.bring H296_ 1 rfl) 1 rfl) 3 rfl) :)
      have H298_ := Holds.nd_tr (n := (⟨b18_, (Value.iface it ix), (Value.iface jt jx), (Value.iface vt vx), (Value.iface jt jx), 1, kb, ke, ke⟩ : ND K)) (a := (Tr.lf : Tr K)) (b := (Tr.lf : Tr K)) H297_
      have H299_ : Holds w289_ (tr sb (pa sb ((⟨true, f36_p, f36_o⟩ : Fr K) :: f36_C)) (Tr.nd (⟨b18_, (Value.iface it ix), (Value.iface jt jx), (Value.iface vt vx), (Value.iface jt jx), 1, kb, ke, ke⟩ : ND K) (Tr.lf : Tr K) (Tr.lf : Tr K)) :: ro R :: cx sb b18_ (upC O (some ((Value.iface jt jx), ke)) ((⟨true, f36_p, f36_o⟩ : Fr K) :: f36_C)) :: clf sb 182 sc :: cl b10_ 177 [((Value.iface it ix)), ((Value.iface jt jx))] :: cl b2_ 177 [((Value.iface it ix)), ((Value.iface jt jx))] :: cl tb 185 [(vP (some ⟨(ra b18_ ((⟨true, f36_p, f36_o⟩ : Fr K) :: f36_C)), 0, none⟩)), (vI .i64 cnt), (vQ sb)] :: F) := (H298_)
      have H300_ := H299_; rw [← pa_upC (O := O) sb ((⟨true, f36_p, f36_o⟩ : Fr K) :: f36_C) (some ((Value.iface jt jx), ke)), ← ra_upC O ((⟨true, f36_p, f36_o⟩ : Fr K) :: f36_C) b18_ (some ((Value.iface jt jx), ke))] at H300_
      have H301_ := H300_
      have hFx_ : FxI O R (inl ((⟨true, f36_p, f36_o⟩ : Fr K) :: f36_C) ++ (⟨b18_, (Value.iface it ix), (Value.iface jt jx), (Value.iface vt vx), (Value.iface jt jx), 1, kb, ke, ke⟩ : ND K).er :: inr ((⟨true, f36_p, f36_o⟩ : Fr K) :: f36_C)) (upC O (some ((Value.iface jt jx), ke)) ((⟨true, f36_p, f36_o⟩ : Fr K) :: f36_C)) (Tr.nd (⟨b18_, (Value.iface it ix), (Value.iface jt jx), (Value.iface vt vx), (Value.iface jt jx), 1, kb, ke, ke⟩ : ND K) (Tr.lf : Tr K) (Tr.lf : Tr K)) := ins_fx hW1 hCk hb he
      have H302_ := Holds.recl H301_ 6 rfl ((lcons ((by first | rfl | omega | (simp; done) | (simp; omega)) : (vP (some ⟨(ra b18_ (upC O (some ((Value.iface jt jx), ke)) ((⟨true, f36_p, f36_o⟩ : Fr K) :: f36_C))), 0, none⟩)) = (vP (some ⟨(ra (⟨b18_, (Value.iface it ix), (Value.iface jt jx), (Value.iface vt vx), (Value.iface jt jx), 1, kb, ke, ke⟩ : ND K).a (upC O (some ((Value.iface jt jx), ke)) ((⟨true, f36_p, f36_o⟩ : Fr K) :: f36_C))), 0, none⟩))) rfl) : [(vP (some ⟨(ra b18_ (upC O (some ((Value.iface jt jx), ke)) ((⟨true, f36_p, f36_o⟩ : Fr K) :: f36_C))), 0, none⟩)), (vI .i64 cnt), (vQ sb)] = [(vP (some ⟨(ra (⟨b18_, (Value.iface it ix), (Value.iface jt jx), (Value.iface vt vx), (Value.iface jt jx), 1, kb, ke, ke⟩ : ND K).a (upC O (some ((Value.iface jt jx), ke)) ((⟨true, f36_p, f36_o⟩ : Fr K) :: f36_C))), 0, none⟩)), (vI .i64 cnt), (vQ sb)])
      have eH303_ : cx sb b18_ (upC O (some ((Value.iface jt jx), ke)) ((⟨true, f36_p, f36_o⟩ : Fr K) :: f36_C)) = cx sb ((⟨b18_, (Value.iface it ix), (Value.iface jt jx), (Value.iface vt vx), (Value.iface jt jx), 1, kb, ke, ke⟩ : ND K).a) (upC O (some ((Value.iface jt jx), ke)) ((⟨true, f36_p, f36_o⟩ : Fr K) :: f36_C)) := by first | rfl | (congr 1 <;> first | rfl | omega | (simp; done) | (simp; omega))
      have H303_ : Holds w289_ (tr sb (pa sb (upC O (some ((Value.iface jt jx), ke)) ((⟨true, f36_p, f36_o⟩ : Fr K) :: f36_C))) (Tr.nd (⟨b18_, (Value.iface it ix), (Value.iface jt jx), (Value.iface vt vx), (Value.iface jt jx), 1, kb, ke, ke⟩ : ND K) (Tr.lf : Tr K) (Tr.lf : Tr K)) :: ro R :: cx sb ((⟨b18_, (Value.iface it ix), (Value.iface jt jx), (Value.iface vt vx), (Value.iface jt jx), 1, kb, ke, ke⟩ : ND K).a) (upC O (some ((Value.iface jt jx), ke)) ((⟨true, f36_p, f36_o⟩ : Fr K) :: f36_C)) :: clf sb 182 sc :: cl b10_ 177 [((Value.iface it ix)), ((Value.iface jt jx))] :: cl b2_ 177 [((Value.iface it ix)), ((Value.iface jt jx))] :: cl tb 185 [(vP (some ⟨(ra (⟨b18_, (Value.iface it ix), (Value.iface jt jx), (Value.iface vt vx), (Value.iface jt jx), 1, kb, ke, ke⟩ : ND K).a (upC O (some ((Value.iface jt jx), ke)) ((⟨true, f36_p, f36_o⟩ : Fr K) :: f36_C))), 0, none⟩)), (vI .i64 cnt), (vQ sb)] :: F) := cast1 (P := fun c__ => Holds w289_ (tr sb (pa sb (upC O (some ((Value.iface jt jx), ke)) ((⟨true, f36_p, f36_o⟩ : Fr K) :: f36_C))) (Tr.nd (⟨b18_, (Value.iface it ix), (Value.iface jt jx), (Value.iface vt vx), (Value.iface jt jx), 1, kb, ke, ke⟩ : ND K) (Tr.lf : Tr K) (Tr.lf : Tr K)) :: ro R :: c__ :: clf sb 182 sc :: cl b10_ 177 [((Value.iface it ix)), ((Value.iface jt jx))] :: cl b2_ 177 [((Value.iface it ix)), ((Value.iface jt jx))] :: cl tb 185 [(vP (some ⟨(ra (⟨b18_, (Value.iface it ix), (Value.iface jt jx), (Value.iface vt vx), (Value.iface jt jx), 1, kb, ke, ke⟩ : ND K).a (upC O (some ((Value.iface jt jx), ke)) ((⟨true, f36_p, f36_o⟩ : Fr K) :: f36_C))), 0, none⟩)), (vI .i64 cnt), (vQ sb)] :: F)) eH303_ H302_
      have H307_ := ((Holds.bring (Holds.bring (Holds.bring (Holds.bring (Holds.bring H303_ 3 rfl) 3 rfl) 2 rfl) 6 rfl) 4 rfl) :)
      refine S_list (T_call (al := [(vQ tb), (vP (some ⟨(⟨b18_, (Value.iface it ix), (Value.iface jt jx), (Value.iface vt vx), (Value.iface jt jx), 1, kb, ke, ke⟩ : ND K).a, 0, none⟩))]) (pre := [cl tb 185 [(vP (some ⟨(ra (⟨b18_, (Value.iface it ix), (Value.iface jt jx), (Value.iface vt vx), (Value.iface jt jx), 1, kb, ke, ke⟩ : ND K).a (upC O (some ((Value.iface jt jx), ke)) ((⟨true, f36_p, f36_o⟩ : Fr K) :: f36_C))), 0, none⟩)), (vI .i64 cnt), (vQ sb)], tr sb (pa sb (upC O (some ((Value.iface jt jx), ke)) ((⟨true, f36_p, f36_o⟩ : Fr K) :: f36_C))) (Tr.nd (⟨b18_, (Value.iface it ix), (Value.iface jt jx), (Value.iface vt vx), (Value.iface jt jx), 1, kb, ke, ke⟩ : ND K) (Tr.lf : Tr K) (Tr.lf : Tr K)), cx sb ((⟨b18_, (Value.iface it ix), (Value.iface jt jx), (Value.iface vt vx), (Value.iface jt jx), 1, kb, ke, ke⟩ : ND K).a) (upC O (some ((Value.iface jt jx), ke)) ((⟨true, f36_p, f36_o⟩ : Fr K) :: f36_C)), clf sb 182 sc]) rfl (lcons rfl (lcons ((by first | rfl | omega | (simp; done) | (simp; omega)) : (vQ b18_) = (vP (some ⟨(⟨b18_, (Value.iface it ix), (Value.iface jt jx), (Value.iface vt vx), (Value.iface jt jx), 1, kb, ke, ke⟩ : ND K).a, 0, none⟩))) rfl)) cb169 (itFix R K O tb sb cnt sc (⟨b18_, (Value.iface it ix), (Value.iface jt jx), (Value.iface vt vx), (Value.iface jt jx), 1, kb, ke, ke⟩ : ND K) (Tr.lf : Tr K) (Tr.lf : Tr K) (upC O (some ((Value.iface jt jx), ke)) ((⟨true, f36_p, f36_o⟩ : Fr K) :: f36_C)) (inl ((⟨true, f36_p, f36_o⟩ : Fr K) :: f36_C) ++ (⟨b18_, (Value.iface it ix), (Value.iface jt jx), (Value.iface vt vx), (Value.iface jt jx), 1, kb, ke, ke⟩ : ND K).er :: inr ((⟨true, f36_p, f36_o⟩ : Fr K) :: f36_C)) (hFx_)) H307_ ?_)
      rintro v304_ p311_ w308_ ⟨W305_, rfl, rfl, he306_⟩ S310_ H309_
      have S312_ := Same.trans S292_ S310_
      refine wn (hK293_ _ _ ?_)
      refine C_reg ?_
      refine sm (vQ tb) ?_
      refine sv (v := (vQ tb)) (by kernel_rfl) ?_
      refine sv (v := (vP (some ⟨tb, 1, none⟩))) (by kernel_rfl) ?_
      refine sv (v := (vI .i64 cnt)) (x_load1 rfl underlying3 rfl ((Holds.rd H309_ 1 rfl) 1 (vI .i64 cnt) rfl)) ?_
      refine sv (v := (vI .i64 (IntKind.i64.wrap (cnt + 1)))) (x_bin rfl rfl rfl) ?_
      refine sv (v := (vQ tb)) (by kernel_rfl) ?_
      refine sv (v := (vP (some ⟨tb, 1, none⟩))) (by kernel_rfl) ?_
      refine S_list0 (T_store1 (v := (vI .i64 (IntKind.i64.wrap (cnt + 1)))) rfl rfl z3 rfl H309_ 1 rfl (Nat.le_of_ble_eq_true (by rfl)) ?_)
      intro w313_ S315_ H314_
      have S316_ := Same.trans S312_ S315_
      refine wpList_nil ?_
      refine R_0 rfl ?_
      have H317_ := Holds.pkF H314_ [0, 0, 0, 0] 2
      exact ⟨_, _, rfl, ⟨W305_, (inl ((⟨true, f36_p, f36_o⟩ : Fr K) :: f36_C)), (inr ((⟨true, f36_p, f36_o⟩ : Fr K) :: f36_C)), (⟨b18_, (Value.iface it ix), (Value.iface jt jx), (Value.iface vt vx), (Value.iface jt jx), 1, kb, ke, ke⟩ : ND K), rfl, rfl, (⟨he306_.1, he306_.2.1, he306_.2.2.2⟩), (he306_.2.2.1), (by rw [ino_plug]; simp [ino]), (⟨rfl, rfl, rfl, rfl, rfl⟩), (by rw [he306_.2.2.1]; exact ins_srt hway (by have := hs; rw [ino_plug] at this; simpa [ino] using this)), ((way_in (C := ((⟨true, f36_p, f36_o⟩ : Fr K) :: f36_C)) (M := []) hway (by have := hs; rw [ino_plug] at this; simpa [ino] using this)).1), ((way_in (C := ((⟨true, f36_p, f36_o⟩ : Fr K) :: f36_C)) (M := []) hway (by have := hs; rw [ino_plug] at this; simpa [ino] using this)).2)⟩, S316_, H317_⟩
     ·have c273_fp : ¬ (O.cm ke f36_p.ke < 0) := of_decide_eq_false c273_f
      omega
    ·have c264_fp : ¬ (O.cm kb f36_p.kb = 0) := of_decide_eq_false c264_f
     omega
 ·skip
  have H318_ := H29_
  have H319_ := ((Holds.bring H318_ 6 rfl) :)
  have H320_ := Holds.tr_nd H319_
  have hk_ := hTk.1
  refine sm (vQ f33_n.a) ?_
  refine sm (vQ tb) ?_
  refine sv (v := (vQ tb)) (by kernel_rfl) ?_
  refine sv (v := (vP (some ⟨tb, 2, none⟩))) (by kernel_rfl) ?_
  refine sv (v := (vQ sb)) (x_load1 rfl underlying173 rfl ((Holds.rd H320_ 8 rfl) 2 (vQ sb) rfl)) ?_
  have hpc321_ : f33_n.a ≠ sb := Holds.ne_f H320_ 0 rfl 9 rfl (by decide)
  refine sv (v := (vB true)) (x_cast (x_nePN rfl rfl underlying173 z182 (by decide) (Holds.blk H320_ 0 rfl) (Holds.blk H320_ 9 rfl)) (congrArg vB (decide_eq_true hpc321_))) ?_
  refine wn (hK32_ _ _ ?_)
  refine C_condT rfl ?_
  refine C_skip (X_then (hK31_ _ _ ?_))
  refine C_block ?_
  refine cR fun _ hK322_ => ?_
  refine sm (vQ f33_n.a) ?_
  refine sv (v := (vQ f33_n.a)) (x_assign rfl) ?_
  refine wn (hK322_ _ _ ?_)
  refine C_seq (fun _ hK323_ => ?_)
  refine A_start (S := fun w => (Rd f33_n.a [f33_n.b, f33_n.e, f33_n.v, f33_n.mx, (vQ (rt sb f33_a)), (vQ (rt sb f33_b)), (vQ (pa sb C1)), (vI .i64 f33_n.c)] w ∧ Blk w f33_n.a) ∧ RtRd w (rt sb f33_a) (rmx f33_a) ∧ RtRd w (rt sb f33_b) (rmx f33_b) ∧ (Rd b18_ [((Value.iface it ix)), ((Value.iface jt jx)), ((Value.iface vt vx)), ((Value.iface jt jx)), (vQ sb), (vQ sb), (vQ sb), (vI .i64 1)] w ∧ Blk w b18_) ∧ Sub R (hp w)) (N := 16) foll rfl rfl ?_
  have H324_ := Holds.drew_ H320_
  have hq325_ := And.intro ((And.intro (Holds.rdf H324_ 0 rfl) (Holds.blk H324_ 0 rfl))) (And.intro (Holds.tr_rd H324_ 1 rfl 9 rfl) (And.intro (Holds.tr_rd H324_ 2 rfl 9 rfl) (And.intro ((And.intro (Holds.rdf H324_ 4 rfl) (Holds.blk H324_ 4 rfl))) ((Holds.ro_at H324_ 7 rfl)))))
  refine A_tk 0 (v := (vQ b18_)) rfl (by kernel_rfl) (fun w hS => x_move rfl) hq325_ ?_
  refine A_tk 1 (v := (vQ b18_)) rfl (by kernel_rfl) (fun w hS => by kernel_rfl) hq325_ ?_
  refine A_tk 2 (v := (vQ b18_)) rfl (by kernel_rfl) (fun w hS => by kernel_rfl) hq325_ ?_
  refine A_tk 3 (v := (vQ b18_)) rfl (by kernel_rfl) (fun w hS => by kernel_rfl) hq325_ ?_
  refine A_tk 4 (v := (vQ b18_)) rfl (by kernel_rfl) (fun w hS => by kernel_rfl) hq325_ ?_
  refine A_tk 5 (v := ((Value.iface it ix))) rfl (by kernel_rfl) (fun w hS => x_load1 rfl underlying175 rfl (hS.2.2.2.1.1 0 ((Value.iface it ix)) rfl)) hq325_ ?_
  refine A_tk 6 (v := (vQ f33_n.a)) rfl (by kernel_rfl) (fun w hS => x_move rfl) hq325_ ?_
  refine A_tk 7 (v := (vQ f33_n.a)) rfl (by kernel_rfl) (fun w hS => by kernel_rfl) hq325_ ?_
  refine A_tk 8 (v := (vQ f33_n.a)) rfl (by kernel_rfl) (fun w hS => by kernel_rfl) hq325_ ?_
  refine A_tk 9 (v := (vQ f33_n.a)) rfl (by kernel_rfl) (fun w hS => by kernel_rfl) hq325_ ?_
  refine A_tk 10 (v := (vQ f33_n.a)) rfl (by kernel_rfl) (fun w hS => by kernel_rfl) hq325_ ?_
  refine A_tk 11 (v := f33_n.b) rfl (by kernel_rfl) (fun w hS => x_load1 rfl underlying175 rfl (hS.1.1 0 f33_n.b rfl)) hq325_ ?_
  refine A_tk 12 (v := ((Value.iface it ix))) rfl (by kernel_rfl) (fun w hS => by kernel_rfl) hq325_ ?_
  refine A_tk 13 (v := ((Value.iface it ix))) rfl (by kernel_rfl) (fun w hS => x_move rfl) hq325_ ?_
  refine A_ready (i := 14) (rs := []) (by kernel_rfl) ?_
  refine AllR.cons ?_ AllR.nil
  refine A_op (ls' := #[true, true, true, true, true, true, true, true, true, true, true, true, true, true, true, false]) rfl (by kernel_rfl) (T_cmp rfl rfl (O.cmp hb (hk_.b)) H324_ 7 rfl ?_)
  intro w326_ S328_ H327_
  have S329_ := Same.trans (Same.trans S30_ (Same.drew _)) S328_
  refine ⟨⟨(And.intro (Holds.rdf H327_ 0 rfl) (Holds.blk H327_ 0 rfl)), Holds.tr_rd H327_ 1 rfl 9 rfl, Holds.tr_rd H327_ 2 rfl 9 rfl, (And.intro (Holds.rdf H327_ 4 rfl) (Holds.blk H327_ 4 rfl)), (Holds.ro_at H327_ 7 rfl)⟩, ?_⟩
  have hq330_ := And.intro ((And.intro (Holds.rdf H327_ 0 rfl) (Holds.blk H327_ 0 rfl))) (And.intro (Holds.tr_rd H327_ 1 rfl 9 rfl) (And.intro (Holds.tr_rd H327_ 2 rfl 9 rfl) (And.intro ((And.intro (Holds.rdf H327_ 4 rfl) (Holds.blk H327_ 4 rfl))) ((Holds.ro_at H327_ 7 rfl)))))
  refine A_tk 15 (v := (vI .i64 (O.cm kb f33_n.kb))) rfl (by kernel_rfl) (fun w hS => x_assign rfl) hq330_ ?_
  refine A_done (by kernel_rfl) ?_
  refine (X_then (hK323_ _ _ ?_))
  refine cR fun _ hK331_ => ?_
  refine sm (vI .i64 (O.cm kb f33_n.kb)) ?_
  refine sv (v := (vB (decide (O.cm kb f33_n.kb < 0)))) (x_bin rfl rfl rfl) ?_
  refine wn (hK331_ _ _ ?_)
  refine C_cond (b := decide (O.cm kb f33_n.kb < 0)) rfl (fun c332_t => ?_) (fun c332_f => ?_)
  ·have c332_tp : O.cm kb f33_n.kb < 0 := of_decide_eq_true c332_t
   refine C_reg ?_
   refine sm (vQ f33_n.a) ?_
   refine sv (v := (vQ f33_n.a)) (by kernel_rfl) ?_
   refine sv (v := (vP (some ⟨f33_n.a, 4, none⟩))) (by kernel_rfl) ?_
   refine sv (v := (vQ (rt sb f33_a))) (x_load1 rfl underlying173 rfl ((Holds.rdf H327_ 0 rfl) 4 (vQ (rt sb f33_a)) rfl)) ?_
   refine sv (v := (vQ (rt sb f33_a))) (x_assign rfl) ?_
   refine wpList_nil (X_blkN (X_then ?_))
   have H333_ := ((Holds.bring (Holds.bring (Holds.bring H327_ 3 rfl) 3 rfl) 2 rfl) :)
   have H334_ := Holds.cons_cx (sb := sb) (f := (⟨true, f33_n, f33_b⟩ : Fr K)) (C := C1) (x := (rt sb f33_a)) H333_
   have H335_ := H334_
   have H336_ := Holds.pkF H335_ [0, 1, 1, 1, 1, 1, 0, 0] 0
   exact ⟨⟨((⟨true, f33_n, f33_b⟩ : Fr K) :: C1), f33_a⟩, ⟨_, congrArg (fun e => mkA 165 e []) (ch (ch (ch (ch rfl rfl) ((by first | rfl | omega | (simp; done) | (simp; omega)) : (vQ f33_n.a) = (vP (some ⟨(pa sb ((⟨true, f33_n, f33_b⟩ : Fr K) :: C1)), 0, none⟩)))) rfl) rfl), H336_, S329_, (hpl), (⟨by unfold bef; first | omega | (simp; omega), hway⟩), (hTk.2.1), (COk.cons (f := (⟨true, f33_n, f33_b⟩ : Fr K)) hTk.1 hTk.2.2 hCk)⟩, (by first | (simp [ino]; done) | (simp [ino]; omega))⟩
  ·have c332_fp : ¬ (O.cm kb f33_n.kb < 0) := of_decide_eq_false c332_f
   refine cR fun _ hK337_ => ?_
   refine sm (vI .i64 (O.cm kb f33_n.kb)) ?_
   refine sv (v := (vB (decide (O.cm kb f33_n.kb = 0)))) (x_bin rfl rfl rfl) ?_
   refine wn (hK337_ _ _ ?_)
   refine C_cond (b := decide (O.cm kb f33_n.kb = 0)) rfl (fun c338_t => ?_) (fun c338_f => ?_)
   ·have c338_tp : O.cm kb f33_n.kb = 0 := of_decide_eq_true c338_t
    refine C_seq (fun _ hK339_ => ?_)
    refine A_start (S := fun w => (Rd f33_n.a [f33_n.b, f33_n.e, f33_n.v, f33_n.mx, (vQ (rt sb f33_a)), (vQ (rt sb f33_b)), (vQ (pa sb C1)), (vI .i64 f33_n.c)] w ∧ Blk w f33_n.a) ∧ RtRd w (rt sb f33_a) (rmx f33_a) ∧ RtRd w (rt sb f33_b) (rmx f33_b) ∧ (Rd b18_ [((Value.iface it ix)), ((Value.iface jt jx)), ((Value.iface vt vx)), ((Value.iface jt jx)), (vQ sb), (vQ sb), (vQ sb), (vI .i64 1)] w ∧ Blk w b18_) ∧ Sub R (hp w)) (N := 16) foll rfl rfl ?_
    have H340_ := Holds.drew_ H327_
    have hq341_ := And.intro ((And.intro (Holds.rdf H340_ 0 rfl) (Holds.blk H340_ 0 rfl))) (And.intro (Holds.tr_rd H340_ 1 rfl 9 rfl) (And.intro (Holds.tr_rd H340_ 2 rfl 9 rfl) (And.intro ((And.intro (Holds.rdf H340_ 4 rfl) (Holds.blk H340_ 4 rfl))) ((Holds.ro_at H340_ 7 rfl)))))
    refine A_tk 0 (v := (vQ b18_)) rfl (by kernel_rfl) (fun w hS => x_move rfl) hq341_ ?_
    refine A_tk 1 (v := (vQ b18_)) rfl (by kernel_rfl) (fun w hS => by kernel_rfl) hq341_ ?_
    refine A_tk 2 (v := (vQ b18_)) rfl (by kernel_rfl) (fun w hS => by kernel_rfl) hq341_ ?_
    refine A_tk 3 (v := (vQ b18_)) rfl (by kernel_rfl) (fun w hS => by kernel_rfl) hq341_ ?_
    refine A_tk 4 (v := (vP (some ⟨b18_, 1, none⟩))) rfl (by kernel_rfl) (fun w hS => by kernel_rfl) hq341_ ?_
    refine A_tk 5 (v := ((Value.iface jt jx))) rfl (by kernel_rfl) (fun w hS => x_load1 rfl underlying175 rfl (hS.2.2.2.1.1 1 ((Value.iface jt jx)) rfl)) hq341_ ?_
    refine A_tk 6 (v := (vQ f33_n.a)) rfl (by kernel_rfl) (fun w hS => x_move rfl) hq341_ ?_
    refine A_tk 7 (v := (vQ f33_n.a)) rfl (by kernel_rfl) (fun w hS => by kernel_rfl) hq341_ ?_
    refine A_tk 8 (v := (vQ f33_n.a)) rfl (by kernel_rfl) (fun w hS => by kernel_rfl) hq341_ ?_
    refine A_tk 9 (v := (vQ f33_n.a)) rfl (by kernel_rfl) (fun w hS => by kernel_rfl) hq341_ ?_
    refine A_tk 10 (v := (vP (some ⟨f33_n.a, 1, none⟩))) rfl (by kernel_rfl) (fun w hS => by kernel_rfl) hq341_ ?_
    refine A_tk 11 (v := f33_n.e) rfl (by kernel_rfl) (fun w hS => x_load1 rfl underlying175 rfl (hS.1.1 1 f33_n.e rfl)) hq341_ ?_
    refine A_tk 12 (v := ((Value.iface jt jx))) rfl (by kernel_rfl) (fun w hS => by kernel_rfl) hq341_ ?_
    refine A_tk 13 (v := ((Value.iface jt jx))) rfl (by kernel_rfl) (fun w hS => x_move rfl) hq341_ ?_
    refine A_ready (i := 14) (rs := []) (by kernel_rfl) ?_
    refine AllR.cons ?_ AllR.nil
    refine A_op (ls' := #[true, true, true, true, true, true, true, true, true, true, true, true, true, true, true, false]) rfl (by kernel_rfl) (T_cmp rfl rfl (O.cmp he (hk_.e)) H340_ 7 rfl ?_)
    intro w342_ S344_ H343_
    have S345_ := Same.trans (Same.trans S329_ (Same.drew _)) S344_
    refine ⟨⟨(And.intro (Holds.rdf H343_ 0 rfl) (Holds.blk H343_ 0 rfl)), Holds.tr_rd H343_ 1 rfl 9 rfl, Holds.tr_rd H343_ 2 rfl 9 rfl, (And.intro (Holds.rdf H343_ 4 rfl) (Holds.blk H343_ 4 rfl)), (Holds.ro_at H343_ 7 rfl)⟩, ?_⟩
    have hq346_ := And.intro ((And.intro (Holds.rdf H343_ 0 rfl) (Holds.blk H343_ 0 rfl))) (And.intro (Holds.tr_rd H343_ 1 rfl 9 rfl) (And.intro (Holds.tr_rd H343_ 2 rfl 9 rfl) (And.intro ((And.intro (Holds.rdf H343_ 4 rfl) (Holds.blk H343_ 4 rfl))) ((Holds.ro_at H343_ 7 rfl)))))
    refine A_tk 15 (v := (vB (decide (O.cm ke f33_n.ke < 0)))) rfl (by kernel_rfl) (fun w hS => x_bin rfl rfl rfl) hq346_ ?_
    refine A_done (by kernel_rfl) ?_
    refine (X_then (hK339_ _ _ ?_))
    refine C_cond (b := decide (O.cm ke f33_n.ke < 0)) rfl (fun c347_t => ?_) (fun c347_f => ?_)
    ·have c347_tp : O.cm ke f33_n.ke < 0 := of_decide_eq_true c347_t
     refine C_reg ?_
     refine sm (vQ f33_n.a) ?_
     refine sv (v := (vQ f33_n.a)) (by kernel_rfl) ?_
     refine sv (v := (vP (some ⟨f33_n.a, 4, none⟩))) (by kernel_rfl) ?_
     refine sv (v := (vQ (rt sb f33_a))) (x_load1 rfl underlying173 rfl ((Holds.rdf H343_ 0 rfl) 4 (vQ (rt sb f33_a)) rfl)) ?_
     refine sv (v := (vQ (rt sb f33_a))) (x_assign rfl) ?_
     refine wpList_nil (X_blkN (X_then ?_))
     have H348_ := ((Holds.bring (Holds.bring (Holds.bring H343_ 3 rfl) 3 rfl) 2 rfl) :)
     have H349_ := Holds.cons_cx (sb := sb) (f := (⟨true, f33_n, f33_b⟩ : Fr K)) (C := C1) (x := (rt sb f33_a)) H348_
     have H350_ := H349_
     have H351_ := Holds.pkF H350_ [0, 1, 1, 1, 1, 1, 0, 0] 0
     exact ⟨⟨((⟨true, f33_n, f33_b⟩ : Fr K) :: C1), f33_a⟩, ⟨_, congrArg (fun e => mkA 165 e []) (ch (ch (ch (ch rfl rfl) ((by first | rfl | omega | (simp; done) | (simp; omega)) : (vQ f33_n.a) = (vP (some ⟨(pa sb ((⟨true, f33_n, f33_b⟩ : Fr K) :: C1)), 0, none⟩)))) rfl) rfl), H351_, S345_, (hpl), (⟨by unfold bef; first | omega | (simp; omega), hway⟩), (hTk.2.1), (COk.cons (f := (⟨true, f33_n, f33_b⟩ : Fr K)) hTk.1 hTk.2.2 hCk)⟩, (by first | (simp [ino]; done) | (simp [ino]; omega))⟩
    ·have c347_fp : ¬ (O.cm ke f33_n.ke < 0) := of_decide_eq_false c347_f
     refine C_reg ?_
     refine sm (vQ f33_n.a) ?_
     refine sv (v := (vQ f33_n.a)) (by kernel_rfl) ?_
     refine sv (v := (vP (some ⟨f33_n.a, 5, none⟩))) (by kernel_rfl) ?_
     refine sv (v := (vQ (rt sb f33_b))) (x_load1 rfl underlying173 rfl ((Holds.rdf H343_ 0 rfl) 5 (vQ (rt sb f33_b)) rfl)) ?_
     refine sv (v := (vQ (rt sb f33_b))) (x_assign rfl) ?_
     refine wpList_nil (X_blkN (X_then ?_))
     have H352_ := ((Holds.bring (Holds.bring (Holds.bring H343_ 3 rfl) 2 rfl) 2 rfl) :)
     have H353_ := Holds.cons_cx (sb := sb) (f := (⟨false, f33_n, f33_a⟩ : Fr K)) (C := C1) (x := (rt sb f33_b)) H352_
     have H354_ := H353_
     have H355_ := Holds.pkF H354_ [0, 1, 1, 1, 1, 1, 0, 0] 0
     exact ⟨⟨((⟨false, f33_n, f33_a⟩ : Fr K) :: C1), f33_b⟩, ⟨_, congrArg (fun e => mkA 165 e []) (ch (ch (ch (ch rfl rfl) ((by first | rfl | omega | (simp; done) | (simp; omega)) : (vQ f33_n.a) = (vP (some ⟨(pa sb ((⟨false, f33_n, f33_a⟩ : Fr K) :: C1)), 0, none⟩)))) rfl) rfl), H355_, S345_, (hpl), (⟨by unfold bef; first | omega | (simp; omega), hway⟩), (hTk.2.2), (COk.cons (f := (⟨false, f33_n, f33_a⟩ : Fr K)) hTk.1 hTk.2.1 hCk)⟩, (by first | (simp [ino]; done) | (simp [ino]; omega))⟩
   ·have c338_fp : ¬ (O.cm kb f33_n.kb = 0) := of_decide_eq_false c338_f
    refine C_reg ?_
    refine sm (vQ f33_n.a) ?_
    refine sv (v := (vQ f33_n.a)) (by kernel_rfl) ?_
    refine sv (v := (vP (some ⟨f33_n.a, 5, none⟩))) (by kernel_rfl) ?_
    refine sv (v := (vQ (rt sb f33_b))) (x_load1 rfl underlying173 rfl ((Holds.rdf H327_ 0 rfl) 5 (vQ (rt sb f33_b)) rfl)) ?_
    refine sv (v := (vQ (rt sb f33_b))) (x_assign rfl) ?_
    refine wpList_nil (X_blkN (X_then ?_))
    have H356_ := ((Holds.bring (Holds.bring (Holds.bring H327_ 3 rfl) 2 rfl) 2 rfl) :)
    have H357_ := Holds.cons_cx (sb := sb) (f := (⟨false, f33_n, f33_a⟩ : Fr K)) (C := C1) (x := (rt sb f33_b)) H356_
    have H358_ := H357_
    have H359_ := Holds.pkF H358_ [0, 1, 1, 1, 1, 1, 0, 0] 0
    exact ⟨⟨((⟨false, f33_n, f33_a⟩ : Fr K) :: C1), f33_b⟩, ⟨_, congrArg (fun e => mkA 165 e []) (ch (ch (ch (ch rfl rfl) ((by first | rfl | omega | (simp; done) | (simp; omega)) : (vQ f33_n.a) = (vP (some ⟨(pa sb ((⟨false, f33_n, f33_a⟩ : Fr K) :: C1)), 0, none⟩)))) rfl) rfl), H359_, S329_, (hpl), (⟨by unfold bef; first | omega | (simp; omega), hway⟩), (hTk.2.2), (COk.cons (f := (⟨false, f33_n, f33_a⟩ : Fr K)) hTk.1 hTk.2.1 hCk)⟩, (by first | (simp [ino]; done) | (simp [ino]; omega))⟩

theorem itInsert (R : HP) (K : Type) (O : KO K) (tb sb : Nat) (cnt : Int) (sc : List Value) (W : Tr K) (it jt vt : TypeId) (ix jx vx : Value) (kb ke : K) (hW : TOk O R W ∧ LocT O W ∧ blackT W) (hb : O.Val R (Value.iface it ix) kb) (he : O.Val R (Value.iface jt jx) ke) (hcn : 0 ≤ cnt ∧ cnt ≤ 1000000000000) (hs : srt O (ino W)) :
    Tri Tryz.prog 157 #[(vQ tb), (vA #[((Value.iface it ix)), ((Value.iface jt jx))]), ((Value.iface vt vx))] R [cl tb 185 [(vQ (rt sb W)), (vI .i64 cnt), (vQ sb)], tr sb sb W, clf sb 182 sc] (fun v__ post__ => ∃ (W' : Tr K) (L1 L2 : List (ND K)) (z : ND K), v__ = (vT #[]) ∧ post__ = [cl tb 185 [(vQ (rt sb W')), (vI .i64 (cnt + 1)), (vQ sb)], tr sb sb W', clf sb 182 sc] ∧ (TOk O R W' ∧ LocT O W' ∧ blackT W') ∧ (ino W' = L1 ++ z.er :: L2) ∧ (ino W = L1 ++ L2) ∧ (z.b = (Value.iface it ix) ∧ z.e = (Value.iface jt jx) ∧ z.v = (Value.iface vt vx) ∧ z.kb = kb ∧ z.ke = ke) ∧ (srt O (ino W')) ∧ (∀ x ∈ L1, ¬ bef O kb ke x) ∧ (∀ y ∈ L2, bef O kb ke y)) := by
  refine (itInsertW R K O tb sb cnt sc W it jt vt ix jx vx kb ke hW hb he hs).mono fun v post h => ?_
  obtain ⟨W', L1, L2, z, h1, h2, h3⟩ := h
  exact ⟨W', L1, L2, z, h1, by rw [h2, IntWalk.i64_in _ (by omega)], h3⟩
end Go.Proofs.YtlnihndjepjagaaGreat
set_option linter.unusedVariables false
set_option linter.unusedSimpArgs false
namespace Go.Proofs.YtlnihndjepjagaaGreat
open Go Go.RowKit Gw Tryz
open Go.Value renaming int → vI, bool → vB, slice → vS, pointer → vP, agg → vA, tuple → vT

section
variable {K : Type} (O : KO K)
def icmp (b e nb ne : K) : Int := if O.cm b nb < 0 ∧ O.cm e nb ≤ 0 then -1 else if 0 ≤ O.cm b ne then 1 else 0
end


set_option maxHeartbeats 1600000 in
theorem itCmp (R : HP) (K : Type) (O : KO K) (ib : Nat) (n : ND K) (l r p : Nat) (it jt : TypeId) (ix jx : Value) (kb ke : K) (hb : O.Val R (Value.iface it ix) kb) (he : O.Val R (Value.iface jt jx) ke) (hn : NOk O R n) :
    Tri Tryz.prog 170 #[(vQ ib), (Value.iface 277 (vQ n.a))] R [cl ib 177 [((Value.iface it ix)), ((Value.iface jt jx))], clf n.a 182 [n.b, n.e, n.v, n.mx, (vQ l), (vQ r), (vQ p), (vI .i64 n.c)]] (fun v__ post__ => v__ = (vI .i64 (icmp O kb ke n.kb n.ke)) ∧ post__ = [cl ib 177 [((Value.iface it ix)), ((Value.iface jt jx))], clf n.a 182 [n.b, n.e, n.v, n.mx, (vQ l), (vQ r), (vQ p), (vI .i64 n.c)]]) := by
 refine Tri.into (n := 52) (al := [(vQ ib), (Value.iface 277 (vQ n.a))]) func170 rfl ntmps170 rfl rfl fun w F H => ?_
 refine cR fun _ hK1_ => ?_
 refine sv (v := (vI .i64 0)) (x_assign rfl) ?_
 refine wn (hK1_ _ _ ?_)
 refine cR fun _ hK2_ => ?_
 refine sm (Value.iface 277 (vQ n.a)) ?_
 refine sv (v := (vQ n.a)) (by kernel_rfl) ?_
 refine sv (v := (vQ n.a)) (x_assign rfl) ?_
 refine wn (hK2_ _ _ ?_)
 refine C_seq (fun _ hK3_ => ?_)
 refine A_start (S := fun w => Rd ib [((Value.iface it ix)), ((Value.iface jt jx))] w ∧ (Rd n.a [n.b, n.e, n.v, n.mx, (vQ l), (vQ r), (vQ p), (vI .i64 n.c)] w ∧ Blk w n.a) ∧ Sub R (hp w)) (N := 12) foll rfl rfl ?_
 have H4_ := Holds.drew_ H
 have hq5_ := And.intro (Holds.rd H4_ 1 rfl) (And.intro ((And.intro (Holds.rdf H4_ 2 rfl) (Holds.blk H4_ 2 rfl))) ((Holds.ro_at H4_ 0 rfl)))
 refine A_tk 0 (v := (vQ ib)) rfl (by kernel_rfl) (fun w hS => x_move rfl) hq5_ ?_
 refine A_tk 1 (v := (vQ ib)) rfl (by kernel_rfl) (fun w hS => by kernel_rfl) hq5_ ?_
 refine A_tk 2 (v := (vQ ib)) rfl (by kernel_rfl) (fun w hS => by kernel_rfl) hq5_ ?_
 refine A_tk 3 (v := ((Value.iface it ix))) rfl (by kernel_rfl) (fun w hS => x_load1 rfl underlying175 rfl (hS.1 0 ((Value.iface it ix)) rfl)) hq5_ ?_
 refine A_tk 4 (v := (vQ n.a)) rfl (by kernel_rfl) (fun w hS => x_move rfl) hq5_ ?_
 refine A_tk 5 (v := (vQ n.a)) rfl (by kernel_rfl) (fun w hS => by kernel_rfl) hq5_ ?_
 refine A_tk 6 (v := (vQ n.a)) rfl (by kernel_rfl) (fun w hS => by kernel_rfl) hq5_ ?_
 refine A_tk 7 (v := n.b) rfl (by kernel_rfl) (fun w hS => x_load1 rfl underlying175 rfl (hS.2.1.1 0 n.b rfl)) hq5_ ?_
 refine A_tk 8 (v := ((Value.iface it ix))) rfl (by kernel_rfl) (fun w hS => by kernel_rfl) hq5_ ?_
 refine A_tk 9 (v := ((Value.iface it ix))) rfl (by kernel_rfl) (fun w hS => x_move rfl) hq5_ ?_
 refine A_ready (i := 10) (rs := []) (by kernel_rfl) ?_
 refine AllR.cons ?_ AllR.nil
 refine A_op (ls' := #[true, true, true, true, true, true, true, true, true, true, true, false]) rfl (by kernel_rfl) (T_cmp rfl rfl (O.cmp hb hn.b) H4_ 0 rfl ?_)
 intro w6_ S8_ H7_
 have S9_ := Same.trans (Same.trans (Same.refl w) (Same.drew _)) S8_
 refine ⟨⟨Holds.rd H7_ 1 rfl, (And.intro (Holds.rdf H7_ 2 rfl) (Holds.blk H7_ 2 rfl)), (Holds.ro_at H7_ 0 rfl)⟩, ?_⟩
 have hq10_ := And.intro (Holds.rd H7_ 1 rfl) (And.intro ((And.intro (Holds.rdf H7_ 2 rfl) (Holds.blk H7_ 2 rfl))) ((Holds.ro_at H7_ 0 rfl)))
 refine A_tk 11 (v := (vI .i64 (O.cm kb n.kb))) rfl (by kernel_rfl) (fun w hS => x_assign rfl) hq10_ ?_
 refine A_done (by kernel_rfl) ?_
 refine (X_then (hK3_ _ _ ?_))
 refine C_seq (fun _ hK11_ => ?_)
 refine A_start (S := fun w => Rd ib [((Value.iface it ix)), ((Value.iface jt jx))] w ∧ (Rd n.a [n.b, n.e, n.v, n.mx, (vQ l), (vQ r), (vQ p), (vI .i64 n.c)] w ∧ Blk w n.a) ∧ Sub R (hp w)) (N := 12) foll rfl rfl ?_
 have H12_ := Holds.drew_ H7_
 have hq13_ := And.intro (Holds.rd H12_ 1 rfl) (And.intro ((And.intro (Holds.rdf H12_ 2 rfl) (Holds.blk H12_ 2 rfl))) ((Holds.ro_at H12_ 0 rfl)))
 refine A_tk 0 (v := (vQ ib)) rfl (by kernel_rfl) (fun w hS => x_move rfl) hq13_ ?_
 refine A_tk 1 (v := (vQ ib)) rfl (by kernel_rfl) (fun w hS => by kernel_rfl) hq13_ ?_
 refine A_tk 2 (v := (vQ ib)) rfl (by kernel_rfl) (fun w hS => by kernel_rfl) hq13_ ?_
 refine A_tk 3 (v := ((Value.iface it ix))) rfl (by kernel_rfl) (fun w hS => x_load1 rfl underlying175 rfl (hS.1 0 ((Value.iface it ix)) rfl)) hq13_ ?_
 refine A_tk 4 (v := (vQ n.a)) rfl (by kernel_rfl) (fun w hS => x_move rfl) hq13_ ?_
 refine A_tk 5 (v := (vQ n.a)) rfl (by kernel_rfl) (fun w hS => by kernel_rfl) hq13_ ?_
 refine A_tk 6 (v := (vP (some ⟨n.a, 1, none⟩))) rfl (by kernel_rfl) (fun w hS => by kernel_rfl) hq13_ ?_
 refine A_tk 7 (v := n.e) rfl (by kernel_rfl) (fun w hS => x_load1 rfl underlying175 rfl (hS.2.1.1 1 n.e rfl)) hq13_ ?_
 refine A_tk 8 (v := ((Value.iface it ix))) rfl (by kernel_rfl) (fun w hS => by kernel_rfl) hq13_ ?_
 refine A_tk 9 (v := ((Value.iface it ix))) rfl (by kernel_rfl) (fun w hS => x_move rfl) hq13_ ?_
 refine A_ready (i := 10) (rs := []) (by kernel_rfl) ?_
 refine AllR.cons ?_ AllR.nil
 refine A_op (ls' := #[true, true, true, true, true, true, true, true, true, true, true, false]) rfl (by kernel_rfl) (T_cmp rfl rfl (O.cmp hb hn.e) H12_ 0 rfl ?_)
 intro w14_ S16_ H15_
 have S17_ := Same.trans (Same.trans S9_ (Same.drew _)) S16_
 refine ⟨⟨Holds.rd H15_ 1 rfl, (And.intro (Holds.rdf H15_ 2 rfl) (Holds.blk H15_ 2 rfl)), (Holds.ro_at H15_ 0 rfl)⟩, ?_⟩
 have hq18_ := And.intro (Holds.rd H15_ 1 rfl) (And.intro ((And.intro (Holds.rdf H15_ 2 rfl) (Holds.blk H15_ 2 rfl))) ((Holds.ro_at H15_ 0 rfl)))
 refine A_tk 11 (v := (vI .i64 (O.cm kb n.ke))) rfl (by kernel_rfl) (fun w hS => x_assign rfl) hq18_ ?_
 refine A_done (by kernel_rfl) ?_
 refine (X_then (hK11_ _ _ ?_))
 refine C_seq (fun _ hK19_ => ?_)
 refine A_start (S := fun w => Rd ib [((Value.iface it ix)), ((Value.iface jt jx))] w ∧ (Rd n.a [n.b, n.e, n.v, n.mx, (vQ l), (vQ r), (vQ p), (vI .i64 n.c)] w ∧ Blk w n.a) ∧ Sub R (hp w)) (N := 12) foll rfl rfl ?_
 have H20_ := Holds.drew_ H15_
 have hq21_ := And.intro (Holds.rd H20_ 1 rfl) (And.intro ((And.intro (Holds.rdf H20_ 2 rfl) (Holds.blk H20_ 2 rfl))) ((Holds.ro_at H20_ 0 rfl)))
 refine A_tk 0 (v := (vQ ib)) rfl (by kernel_rfl) (fun w hS => x_move rfl) hq21_ ?_
 refine A_tk 1 (v := (vQ ib)) rfl (by kernel_rfl) (fun w hS => by kernel_rfl) hq21_ ?_
 refine A_tk 2 (v := (vP (some ⟨ib, 1, none⟩))) rfl (by kernel_rfl) (fun w hS => by kernel_rfl) hq21_ ?_
 refine A_tk 3 (v := ((Value.iface jt jx))) rfl (by kernel_rfl) (fun w hS => x_load1 rfl underlying175 rfl (hS.1 1 ((Value.iface jt jx)) rfl)) hq21_ ?_
 refine A_tk 4 (v := (vQ n.a)) rfl (by kernel_rfl) (fun w hS => x_move rfl) hq21_ ?_
 refine A_tk 5 (v := (vQ n.a)) rfl (by kernel_rfl) (fun w hS => by kernel_rfl) hq21_ ?_
 refine A_tk 6 (v := (vQ n.a)) rfl (by kernel_rfl) (fun w hS => by kernel_rfl) hq21_ ?_
 refine A_tk 7 (v := n.b) rfl (by kernel_rfl) (fun w hS => x_load1 rfl underlying175 rfl (hS.2.1.1 0 n.b rfl)) hq21_ ?_
 refine A_tk 8 (v := ((Value.iface jt jx))) rfl (by kernel_rfl) (fun w hS => by kernel_rfl) hq21_ ?_
 refine A_tk 9 (v := ((Value.iface jt jx))) rfl (by kernel_rfl) (fun w hS => x_move rfl) hq21_ ?_
 refine A_ready (i := 10) (rs := []) (by kernel_rfl) ?_
 refine AllR.cons ?_ AllR.nil
 refine A_op (ls' := #[true, true, true, true, true, true, true, true, true, true, true, false]) rfl (by kernel_rfl) (T_cmp rfl rfl (O.cmp he hn.b) H20_ 0 rfl ?_)
 intro w22_ S24_ H23_
 have S25_ := Same.trans (Same.trans S17_ (Same.drew _)) S24_
 refine ⟨⟨Holds.rd H23_ 1 rfl, (And.intro (Holds.rdf H23_ 2 rfl) (Holds.blk H23_ 2 rfl)), (Holds.ro_at H23_ 0 rfl)⟩, ?_⟩
 have hq26_ := And.intro (Holds.rd H23_ 1 rfl) (And.intro ((And.intro (Holds.rdf H23_ 2 rfl) (Holds.blk H23_ 2 rfl))) ((Holds.ro_at H23_ 0 rfl)))
 refine A_tk 11 (v := (vI .i64 (O.cm ke n.kb))) rfl (by kernel_rfl) (fun w hS => x_assign rfl) hq26_ ?_
 refine A_done (by kernel_rfl) ?_
 refine (X_then (hK19_ _ _ ?_))
 refine C_seq (fun _ hK27_ => ?_)
 refine cR fun _ hK28_ => ?_
 refine sm (vI .i64 (O.cm kb n.kb)) ?_
 refine sv (v := (vB (decide (O.cm kb n.kb < 0)))) (x_bin rfl rfl rfl) ?_
 refine sm (vB (decide (O.cm kb n.kb < 0))) ?_
 rcases Bool.eq_false_or_eq_true (decide (O.cm kb n.kb < 0)) with c29_t | c29_f
 ·have c29_tp : O.cm kb n.kb < 0 := of_decide_eq_true c29_t
  refine S_yes (j := 2) (dj := 46) (b := true) rfl rfl (congrArg vB c29_t) (T_val (v := (vI .i64 (O.cm ke n.kb))) (x_move rfl) ?_)
  refine S_yes (j := 2) (dj := 46) (b := true) rfl rfl (congrArg vB c29_t) (T_val (v := (vB (decide (O.cm ke n.kb ≤ 0)))) (x_bin rfl rfl rfl) ?_)
  refine S_list (T_pickT (v := (vB (decide (O.cm ke n.kb ≤ 0)))) (congrArg vB c29_t) rfl ?_)
  refine wn (hK28_ _ _ ?_)
  refine C_cond (b := decide (O.cm ke n.kb ≤ 0)) rfl (fun c30_t => ?_) (fun c30_f => ?_)
  ·have c30_tp : O.cm ke n.kb ≤ 0 := of_decide_eq_true c30_t
   refine cR fun _ hK31_ => ?_
   refine sv (v := (vI .i64 (-1))) (x_assign rfl) ?_
   refine wn (hK31_ _ _ ?_)
   refine C_ret (X_thenR ?_)
   refine R_any (v := (vI .i64 (-1))) (run_results1 rfl rfl) ?_
   exact ⟨_, _, rfl, ⟨(congrArg (vI .i64) ((by unfold icmp; first | exact (if_pos (by omega)).symm | (rw [if_neg (by omega)]; first | exact (if_pos (by omega)).symm | exact (if_neg (by omega)).symm)) : -1 = icmp O kb ke n.kb n.ke)), rfl⟩, S25_, H23_⟩
  ·have c30_fp : ¬ (O.cm ke n.kb ≤ 0) := of_decide_eq_false c30_f
   refine C_skip (X_then (hK27_ _ _ ?_))
   refine C_seq (fun _ hK32_ => ?_)
   refine cR fun _ hK33_ => ?_
   refine sm (vI .i64 (O.cm kb n.ke)) ?_
   refine sv (v := (vB (decide (0 ≤ O.cm kb n.ke)))) (x_bin rfl rfl rfl) ?_
   refine wn (hK33_ _ _ ?_)
   refine C_cond (b := decide (0 ≤ O.cm kb n.ke)) rfl (fun c34_t => ?_) (fun c34_f => ?_)
   ·have c34_tp : 0 ≤ O.cm kb n.ke := of_decide_eq_true c34_t
    refine cR fun _ hK35_ => ?_
    refine sv (v := (vI .i64 1)) (x_assign rfl) ?_
    refine wn (hK35_ _ _ ?_)
    refine C_ret (X_thenR ?_)
    refine R_any (v := (vI .i64 1)) (run_results1 rfl rfl) ?_
    exact ⟨_, _, rfl, ⟨(congrArg (vI .i64) ((by unfold icmp; first | exact (if_pos (by omega)).symm | (rw [if_neg (by omega)]; first | exact (if_pos (by omega)).symm | exact (if_neg (by omega)).symm)) : 1 = icmp O kb ke n.kb n.ke)), rfl⟩, S25_, H23_⟩
   ·have c34_fp : ¬ (0 ≤ O.cm kb n.ke) := of_decide_eq_false c34_f
    refine C_skip (X_then (hK32_ _ _ ?_))
    refine cR fun _ hK36_ => ?_
    refine sv (v := (vI .i64 0)) (x_assign rfl) ?_
    refine wn (hK36_ _ _ ?_)
    refine C_ret ?_
    refine R_any (v := (vI .i64 0)) (run_results1 rfl rfl) ?_
    exact ⟨_, _, rfl, ⟨(congrArg (vI .i64) ((by unfold icmp; first | exact (if_pos (by omega)).symm | (rw [if_neg (by omega)]; first | exact (if_pos (by omega)).symm | exact (if_neg (by omega)).symm)) : 0 = icmp O kb ke n.kb n.ke)), rfl⟩, S25_, H23_⟩
 ·have c29_fp : ¬ (O.cm kb n.kb < 0) := of_decide_eq_false c29_f
  refine S_no (j := 2) (dj := 46) (b := false) rfl rfl (congrArg vB c29_f) (by decide) ?_
  refine S_no (j := 2) (dj := 46) (b := false) rfl rfl (congrArg vB c29_f) (by decide) ?_
  refine S_list (T_pickF (v := (vB false)) (congrArg vB c29_f) rfl ?_)
  refine wn (hK28_ _ _ ?_)
  refine C_condF rfl ?_
  refine C_skip (X_then (hK27_ _ _ ?_))
  refine C_seq (fun _ hK37_ => ?_)
  refine cR fun _ hK38_ => ?_
  refine sm (vI .i64 (O.cm kb n.ke)) ?_
  refine sv (v := (vB (decide (0 ≤ O.cm kb n.ke)))) (x_bin rfl rfl rfl) ?_
  refine wn (hK38_ _ _ ?_)
  refine C_cond (b := decide (0 ≤ O.cm kb n.ke)) rfl (fun c39_t => ?_) (fun c39_f => ?_)
  ·have c39_tp : 0 ≤ O.cm kb n.ke := of_decide_eq_true c39_t
   refine cR fun _ hK40_ => ?_
   refine sv (v := (vI .i64 1)) (x_assign rfl) ?_
   refine wn (hK40_ _ _ ?_)
   refine C_ret (X_thenR ?_)
   refine R_any (v := (vI .i64 1)) (run_results1 rfl rfl) ?_
   exact ⟨_, _, rfl, ⟨(congrArg (vI .i64) ((by unfold icmp; first | exact (if_pos (by omega)).symm | (rw [if_neg (by omega)]; first | exact (if_pos (by omega)).symm | exact (if_neg (by omega)).symm)) : 1 = icmp O kb ke n.kb n.ke)), rfl⟩, S25_, H23_⟩
  ·have c39_fp : ¬ (0 ≤ O.cm kb n.ke) := of_decide_eq_false c39_f
   refine C_skip (X_then (hK37_ _ _ ?_))
   refine cR fun _ hK41_ => ?_
   refine sv (v := (vI .i64 0)) (x_assign rfl) ?_
   refine wn (hK41_ _ _ ?_)
   refine C_ret ?_
   refine R_any (v := (vI .i64 0)) (run_results1 rfl rfl) ?_
   exact ⟨_, _, rfl, ⟨(congrArg (vI .i64) ((by unfold icmp; first | exact (if_pos (by omega)).symm | (rw [if_neg (by omega)]; first | exact (if_pos (by omega)).symm | exact (if_neg (by omega)).symm)) : 0 = icmp O kb ke n.kb n.ke)), rfl⟩, S25_, H23_⟩
end Go.Proofs.YtlnihndjepjagaaGreat
set_option linter.unusedVariables false
set_option linter.unusedSimpArgs false
namespace Go.Proofs.YtlnihndjepjagaaGreat
open Go Go.RowKit Gw Tryz
open Go.Value renaming int → vI, bool → vB, slice → vS, pointer → vP, agg → vA, tuple → vT

section
variable {K : Type} (O : KO K)
def isect (b e : K) : Tr K → Bool
  | .lf => false
  | .nd n u v => if icmp O b e n.kb n.ke = 0 then true else if (match rmx u with | none => false | some m => decide (0 < O.cm m.2 b)) then isect b e u else isect b e v
variable {O}
theorem isect_l {b e : K} {n : ND K} {u v : Tr K} (h1 : ¬ icmp O b e n.kb n.ke = 0) (h2 : (match rmx u with | none => false | some m => decide (0 < O.cm m.2 b)) = true) : isect O b e (.nd n u v) = isect O b e u := by
  rw [isect, if_neg h1, if_pos h2]
theorem isect_r {b e : K} {n : ND K} {u v : Tr K} (h1 : ¬ icmp O b e n.kb n.ke = 0) (h2 : ¬ (match rmx u with | none => false | some m => decide (0 < O.cm m.2 b)) = true) : isect O b e (.nd n u v) = isect O b e v := by
  rw [isect, if_neg h1, if_neg h2]
end


set_option maxHeartbeats 16000000 in
theorem itIsect (R : HP) (K : Type) (O : KO K) (tb sb : Nat) (cnt : Int) (sc : List Value) (W : Tr K) (it jt : TypeId) (ix jx : Value) (kb ke : K) (hW : TOk O R W) (hb : O.Val R (Value.iface it ix) kb) (he : O.Val R (Value.iface jt jx) ke) :
    Tri Tryz.prog 158 #[(vQ tb), (vA #[((Value.iface it ix)), ((Value.iface jt jx))])] R [cl tb 185 [(vQ (rt sb W)), (vI .i64 cnt), (vQ sb)], tr sb sb W, clf sb 182 sc] (fun v__ post__ => v__ = (vB (isect O kb ke W)) ∧ post__ = [cl tb 185 [(vQ (rt sb W)), (vI .i64 cnt), (vQ sb)], tr sb sb W, clf sb 182 sc]) := by
 refine Tri.into (n := 61) (al := [(vQ tb), (vA #[((Value.iface it ix)), ((Value.iface jt jx))])]) func158 rfl ntmps158 rfl rfl fun w F H => ?_
 refine cR fun _ hK1_ => ?_
 refine S_list (T_box (v := (vA #[((Value.iface it ix)), ((Value.iface jt jx))])) rfl H ?_)
 intro b2_ w3_ S5_ H4_
 have S6_ := Same.trans (Same.refl w) S5_
 refine sv (v := (vB false)) (x_assign rfl) ?_
 refine wn (hK1_ _ _ ?_)
 refine cR fun _ hK7_ => ?_
 refine sm (vQ tb) ?_
 refine sv (v := (vQ tb)) (by kernel_rfl) ?_
 refine sv (v := (vQ tb)) (by kernel_rfl) ?_
 refine sv (v := (vQ (rt sb W))) (x_load1 rfl underlying173 rfl ((Holds.rd H4_ 2 rfl) 0 (vQ (rt sb W)) rfl)) ?_
 refine sv (v := (vQ (rt sb W))) (x_assign rfl) ?_
 refine wn (hK7_ _ _ ?_)
 refine C_seq (fun _ hK8_ => ?_)
 refine C_block ?_
 have H9_ : Holds w3_ (cx sb (rt sb W) ([] : List (Fr K)) :: cl b2_ 177 [((Value.iface it ix)), ((Value.iface jt jx))] :: ro R :: cl tb 185 [(vQ (rt sb W)), (vI .i64 cnt), (vQ sb)] :: tr sb sb W :: clf sb 182 sc :: F) := Holds.cx_nil H4_
 have eH10_ : tr sb sb W = tr sb (pa sb ([] : List (Fr K))) W := by first | rfl | (congr 1 <;> first | rfl | omega | (simp; done) | (simp; omega))
 have H10_ : Holds w3_ (cx sb (rt sb W) ([] : List (Fr K)) :: cl b2_ 177 [((Value.iface it ix)), ((Value.iface jt jx))] :: ro R :: cl tb 185 [(vQ (rt sb W)), (vI .i64 cnt), (vQ sb)] :: tr sb (pa sb ([] : List (Fr K))) W :: clf sb 182 sc :: F) := cast1 (P := fun c__ => Holds w3_ (cx sb (rt sb W) ([] : List (Fr K)) :: cl b2_ 177 [((Value.iface it ix)), ((Value.iface jt jx))] :: ro R :: cl tb 185 [(vQ (rt sb W)), (vI .i64 cnt), (vQ sb)] :: c__ :: clf sb 182 sc :: F)) eH10_ H9_
 refine C_loop (γ := (List (Fr K)) × (Tr K)) (fun x__ a__ w1__ => match x__ with | ⟨C1, T⟩ => ∃ h : Env, a__ = mkA 61 (upd (upd (upd (upd h 0 (vQ tb)) 3 (vQ b2_)) 4 (vB false)) 5 (vQ (rt sb T))) [] ∧ Holds w1__ (cx sb (rt sb T) C1 :: cl b2_ 177 [((Value.iface it ix)), ((Value.iface jt jx))] :: ro R :: cl tb 185 [(vQ (rt sb W)), (vI .i64 cnt), (vQ sb)] :: tr sb (pa sb C1) T :: clf sb 182 sc :: F) ∧ Same w w1__ ∧ (plug C1 T = W) ∧ (TOk O R T) ∧ (isect O kb ke W = isect O kb ke T)) (fun x__ => match x__ with | ⟨C1, T⟩ => (ino T).length) (⟨([] : List (Fr K)), W⟩) ⟨_, congrArg (fun e => mkA 61 e []) (ch (ch (ch (ch rfl rfl) rfl) rfl) rfl), H10_, S6_, (rfl), (hW), (rfl)⟩ ?_
 rintro ⟨C1, T⟩ _ w11_ ⟨h, rfl, H12_, S13_, hpl, hTk, heq⟩
 refine C_seq (fun _ hK14_ => ?_)
 refine cR fun _ hK15_ => ?_
 rcases T with _ | ⟨f16_n, f16_a, f16_b⟩
 ·skip
  have H17_ := H12_
  refine sm (vQ sb) ?_
  refine sm (vQ tb) ?_
  refine sv (v := (vQ tb)) (by kernel_rfl) ?_
  refine sv (v := (vP (some ⟨tb, 2, none⟩))) (by kernel_rfl) ?_
  refine sv (v := (vQ sb)) (x_load1 rfl underlying173 rfl ((Holds.rd H17_ 3 rfl) 2 (vQ sb) rfl)) ?_
  refine sv (v := (vB false)) (x_neP rfl rfl underlying173 z182) ?_
  refine sm (vB false) ?_
  refine S_no (j := 6) (dj := 16) (b := false) rfl rfl rfl (by decide) ?_
  refine S_no (j := 6) (dj := 16) (b := false) rfl rfl rfl (by decide) ?_
  refine S_no (j := 6) (dj := 16) (b := false) rfl rfl rfl (by decide) ?_
  refine S_no (j := 6) (dj := 16) (b := false) rfl rfl rfl (by decide) ?_
  refine S_no (j := 6) (dj := 16) (b := false) rfl rfl rfl (by decide) ?_
  refine S_no (j := 6) (dj := 16) (b := false) rfl rfl rfl (by decide) ?_
  refine S_no (j := 6) (dj := 16) (b := false) rfl rfl rfl (by decide) ?_
  refine S_list (T_pickF (v := (vB false)) rfl rfl ?_)
  refine wn (hK15_ _ _ ?_)
  refine C_condF rfl ?_
  refine C_exit (X_thenX (X_thenX (X_blkHit ?_)))
  refine (X_then (hK8_ _ _ ?_))
  refine cR fun _ hK18_ => ?_
  refine sm (vQ sb) ?_
  refine sm (vQ tb) ?_
  refine sv (v := (vQ tb)) (by kernel_rfl) ?_
  refine sv (v := (vP (some ⟨tb, 2, none⟩))) (by kernel_rfl) ?_
  refine sv (v := (vQ sb)) (x_load1 rfl underlying173 rfl ((Holds.rd H17_ 3 rfl) 2 (vQ sb) rfl)) ?_
  refine sv (v := (vB false)) (x_neP rfl rfl underlying173 z182) ?_
  refine sv (v := (vB false)) (x_assign rfl) ?_
  refine wn (hK18_ _ _ ?_)
  refine C_ret ?_
  refine R_any (v := (vB false)) (run_results1 rfl rfl) ?_
  have H19_ := H17_
  have H20_ := ((Holds.bring H19_ 4 rfl) :)
  have H21_ := Holds.plug_in (C := C1) (t := (Tr.lf : Tr K)) H20_
  have H22_ := H21_; rw [hpl] at H22_
  have H23_ := Holds.pkF H22_ [2, 2, 0, 1] 1
  exact ⟨_, _, rfl, ⟨(congrArg vB ((by rw [heq]; first | rfl | (simp [isect]; omega) | (simp_all [isect])) : false = (isect O kb ke W))), rfl⟩, S13_, H23_⟩
 ·skip
  have H24_ := H12_
  have H25_ := ((Holds.bring H24_ 4 rfl) :)
  have H26_ := Holds.tr_nd H25_
  refine sm (vQ f16_n.a) ?_
  refine sm (vQ tb) ?_
  refine sv (v := (vQ tb)) (by kernel_rfl) ?_
  refine sv (v := (vP (some ⟨tb, 2, none⟩))) (by kernel_rfl) ?_
  refine sv (v := (vQ sb)) (x_load1 rfl underlying173 rfl ((Holds.rd H26_ 6 rfl) 2 (vQ sb) rfl)) ?_
  have hpc27_ : f16_n.a ≠ sb := Holds.ne_f H26_ 0 rfl 7 rfl (by decide)
  refine sv (v := (vB true)) (x_cast (x_nePN rfl rfl underlying173 z182 (by decide) (Holds.blk H26_ 0 rfl) (Holds.blk H26_ 7 rfl)) (congrArg vB (decide_eq_true hpc27_))) ?_
  refine sm (vB true) ?_
  refine S_yes (j := 6) (dj := 16) (b := true) rfl rfl rfl (T_val (v := (vQ f16_n.a)) (x_move rfl) ?_)
  refine S_yes (j := 6) (dj := 16) (b := true) rfl rfl rfl (T_val (v := (vQ f16_n.a)) (by kernel_rfl) ?_)
  refine S_yes (j := 6) (dj := 16) (b := true) rfl rfl rfl (T_val (v := (vQ f16_n.a)) (by kernel_rfl) ?_)
  refine S_yes (j := 6) (dj := 16) (b := true) rfl rfl rfl (T_val (v := (vQ f16_n.a)) (by kernel_rfl) ?_)
  refine S_yes (j := 6) (dj := 16) (b := true) rfl rfl rfl (T_val (v := (Value.iface 277 (vQ f16_n.a))) (by kernel_rfl) ?_)
  have H29_ := ((Holds.bring (Holds.bring H26_ 4 rfl) 5 rfl) :)
  refine S_yes (j := 6) (dj := 16) (b := true) rfl rfl rfl (T_call (al := [(vQ b2_), (Value.iface 277 (vQ f16_n.a))]) (pre := [cl b2_ 177 [((Value.iface it ix)), ((Value.iface jt jx))], clf f16_n.a 182 [f16_n.b, f16_n.e, f16_n.v, f16_n.mx, (vQ (rt sb f16_a)), (vQ (rt sb f16_b)), (vQ (pa sb C1)), (vI .i64 f16_n.c)]]) rfl rfl cb170 (itCmp R K O b2_ f16_n (rt sb f16_a) (rt sb f16_b) (pa sb C1) it jt ix jx kb ke (hb) (he) (hTk.1)) H29_ ?_)
  rintro v28_ p33_ w30_ ⟨rfl, rfl⟩ S32_ H31_
  have S34_ := Same.trans S13_ S32_
  refine S_yes (j := 6) (dj := 16) (b := true) rfl rfl rfl (T_val (v := (vB (decide (icmp O kb ke f16_n.kb f16_n.ke ≠ 0)))) (x_bin rfl rfl rfl) ?_)
  refine S_list (T_pickT (v := (vB (decide (icmp O kb ke f16_n.kb f16_n.ke ≠ 0)))) rfl rfl ?_)
  refine wn (hK15_ _ _ ?_)
  refine C_cond (b := decide (icmp O kb ke f16_n.kb f16_n.ke ≠ 0)) rfl (fun c35_t => ?_) (fun c35_f => ?_)
  ·have c35_tp : icmp O kb ke f16_n.kb f16_n.ke ≠ 0 := of_decide_eq_true c35_t
   refine C_skip (X_then (hK14_ _ _ ?_))
   refine C_block ?_
   refine C_seq (fun _ hK36_ => ?_)
   refine A_start (S := fun w => Rd b2_ [((Value.iface it ix)), ((Value.iface jt jx))] w ∧ (Rd f16_n.a [f16_n.b, f16_n.e, f16_n.v, f16_n.mx, (vQ (rt sb f16_a)), (vQ (rt sb f16_b)), (vQ (pa sb C1)), (vI .i64 f16_n.c)] w ∧ Blk w f16_n.a) ∧ RtRd w (rt sb f16_a) (rmx f16_a) ∧ RtRd w (rt sb f16_b) (rmx f16_b) ∧ Rd tb [(vQ (rt sb W)), (vI .i64 cnt), (vQ sb)] w ∧ Sub R (hp w)) (N := 22) foll rfl rfl ?_
   have H37_ := Holds.drew_ H31_
   have hq38_ := And.intro (Holds.rd H37_ 1 rfl) (And.intro ((And.intro (Holds.rdf H37_ 2 rfl) (Holds.blk H37_ 2 rfl))) (And.intro (Holds.tr_rd H37_ 3 rfl 7 rfl) (And.intro (Holds.tr_rd H37_ 4 rfl 7 rfl) (And.intro (Holds.rd H37_ 6 rfl) ((Holds.ro_at H37_ 0 rfl))))))
   refine A_tk 0 (v := (vQ f16_n.a)) rfl (by kernel_rfl) (fun w hS => x_move rfl) hq38_ ?_
   refine A_tk 1 (v := (vQ f16_n.a)) rfl (by kernel_rfl) (fun w hS => by kernel_rfl) hq38_ ?_
   refine A_tk 2 (v := (vP (some ⟨f16_n.a, 4, none⟩))) rfl (by kernel_rfl) (fun w hS => by kernel_rfl) hq38_ ?_
   refine A_tk 3 (v := (vQ (rt sb f16_a))) rfl (by kernel_rfl) (fun w hS => x_load1 rfl underlying173 rfl (hS.2.1.1 4 (vQ (rt sb f16_a)) rfl)) hq38_ ?_
   refine A_tk 4 (v := (vQ tb)) rfl (by kernel_rfl) (fun w hS => x_move rfl) hq38_ ?_
   refine A_tk 5 (v := (vQ tb)) rfl (by kernel_rfl) (fun w hS => by kernel_rfl) hq38_ ?_
   refine A_tk 6 (v := (vP (some ⟨tb, 2, none⟩))) rfl (by kernel_rfl) (fun w hS => by kernel_rfl) hq38_ ?_
   refine A_tk 7 (v := (vQ sb)) rfl (by kernel_rfl) (fun w hS => x_load1 rfl underlying173 rfl (hS.2.2.2.2.1 2 (vQ sb) rfl)) hq38_ ?_
   have hpc39_ : (rt sb f16_a) = sb ↔ (rmx f16_a).isNone = true := Holds.tr_iff H37_ 3 rfl 7 rfl (by decide)
   refine A_ready (i := 8) (rs := []) (by kernel_rfl) ?_
   refine AllR.cons ?_ AllR.nil
   refine A_op (ls' := #[true, true, true, true, true, true, true, true, true, false, false, false, false, false, false, false, false, false, false, false, false, false]) rfl (by kernel_rfl) (T_val (v := (vB (!(rmx f16_a).isNone))) (x_cast (x_nePN rfl rfl underlying173 z182 (by decide) (Holds.tr_rd H37_ 3 rfl 7 rfl).blk (Holds.blk H37_ 7 rfl)) (congrArg vB (dec_nbool hpc39_))) ?_)
   refine ⟨⟨Holds.rd H37_ 1 rfl, (And.intro (Holds.rdf H37_ 2 rfl) (Holds.blk H37_ 2 rfl)), Holds.tr_rd H37_ 3 rfl 7 rfl, Holds.tr_rd H37_ 4 rfl 7 rfl, Holds.rd H37_ 6 rfl, (Holds.ro_at H37_ 0 rfl)⟩, ?_⟩
   refine A_tk 9 (v := (vB (!(rmx f16_a).isNone))) rfl (by kernel_rfl) (fun w hS => x_move rfl) hq38_ ?_
   rcases Bool.eq_false_or_eq_true (!(rmx f16_a).isNone) with c40_t | c40_f
   ·skip
    obtain ⟨m41_, m41_h⟩ : ∃ x, (rmx f16_a) = some x := isNone_some (by simpa using c40_t)
    refine A_tkY 10 (j := 9) (dj := 34) (b := true) (v := (vQ f16_n.a)) rfl (by kernel_rfl) rfl rfl (congrArg vB c40_t) (fun w hS => x_move rfl) hq38_ ?_
    refine A_tkY 11 (j := 9) (dj := 34) (b := true) (v := (vQ f16_n.a)) rfl (by kernel_rfl) rfl rfl (congrArg vB c40_t) (fun w hS => by kernel_rfl) hq38_ ?_
    refine A_tkY 12 (j := 9) (dj := 34) (b := true) (v := (vP (some ⟨f16_n.a, 4, none⟩))) rfl (by kernel_rfl) rfl rfl (congrArg vB c40_t) (fun w hS => by kernel_rfl) hq38_ ?_
    refine A_tkY 13 (j := 9) (dj := 34) (b := true) (v := (vQ (rt sb f16_a))) rfl (by kernel_rfl) rfl rfl (congrArg vB c40_t) (fun w hS => x_load1 rfl underlying173 rfl (hS.2.1.1 4 (vQ (rt sb f16_a)) rfl)) hq38_ ?_
    refine A_tkY 14 (j := 9) (dj := 34) (b := true) (v := (vQ (rt sb f16_a))) rfl (by kernel_rfl) rfl rfl (congrArg vB c40_t) (fun w hS => by kernel_rfl) hq38_ ?_
    refine A_tkY 15 (j := 9) (dj := 34) (b := true) (v := (vP (some ⟨(rt sb f16_a), 3, none⟩))) rfl (by kernel_rfl) rfl rfl (congrArg vB c40_t) (fun w hS => by kernel_rfl) hq38_ ?_
    refine A_tkY 16 (j := 9) (dj := 34) (b := true) (v := m41_.1) rfl (by kernel_rfl) rfl rfl (congrArg vB c40_t) (fun w hS => x_load1 rfl underlying175 rfl (hS.2.2.1.rd m41_ m41_h)) hq38_ ?_
    refine A_tkY 17 (j := 9) (dj := 34) (b := true) (v := (vQ b2_)) rfl (by kernel_rfl) rfl rfl (congrArg vB c40_t) (fun w hS => by kernel_rfl) hq38_ ?_
    refine A_tkY 18 (j := 9) (dj := 34) (b := true) (v := ((Value.iface it ix))) rfl (by kernel_rfl) rfl rfl (congrArg vB c40_t) (fun w hS => x_load1 rfl underlying175 rfl (hS.1 0 ((Value.iface it ix)) rfl)) hq38_ ?_
    refine A_ready (i := 19) (rs := []) (by kernel_rfl) ?_
    refine AllR.cons ?_ AllR.nil
    refine A_opYes (ls' := #[true, true, true, true, true, true, true, true, true, true, true, true, true, true, true, true, true, true, true, true, false, false]) (j := 9) (dj := 34) (b := true) rfl (by kernel_rfl) rfl rfl (congrArg vB c40_t) (T_cmp rfl rfl (O.cmp (TOk.mx hTk.2.1 m41_ m41_h) hb) H37_ 0 rfl ?_)
    intro w42_ S44_ H43_
    have S45_ := Same.trans (Same.trans S34_ (Same.drew _)) S44_
    refine ⟨⟨Holds.rd H43_ 1 rfl, (And.intro (Holds.rdf H43_ 2 rfl) (Holds.blk H43_ 2 rfl)), Holds.tr_rd H43_ 3 rfl 7 rfl, Holds.tr_rd H43_ 4 rfl 7 rfl, Holds.rd H43_ 6 rfl, (Holds.ro_at H43_ 0 rfl)⟩, ?_⟩
    have hq46_ := And.intro (Holds.rd H43_ 1 rfl) (And.intro ((And.intro (Holds.rdf H43_ 2 rfl) (Holds.blk H43_ 2 rfl))) (And.intro (Holds.tr_rd H43_ 3 rfl 7 rfl) (And.intro (Holds.tr_rd H43_ 4 rfl 7 rfl) (And.intro (Holds.rd H43_ 6 rfl) ((Holds.ro_at H43_ 0 rfl))))))
    refine A_tkY 20 (j := 9) (dj := 34) (b := true) (v := (vB (decide (0 < O.cm m41_.2 kb)))) rfl (by kernel_rfl) rfl rfl (congrArg vB c40_t) (fun w hS => x_bin rfl rfl rfl) hq46_ ?_
    refine A_tk 21 (v := (vB (decide (0 < O.cm m41_.2 kb)))) rfl (by kernel_rfl) (fun w hS => (x_pickT (congrArg vB c40_t) rfl)) hq46_ ?_
    refine A_done (by kernel_rfl) ?_
    refine (X_then (hK36_ _ _ ?_))
    refine C_cond (b := decide (0 < O.cm m41_.2 kb)) rfl (fun c47_t => ?_) (fun c47_f => ?_)
    ·have c47_tp : 0 < O.cm m41_.2 kb := of_decide_eq_true c47_t
     refine C_reg ?_
     refine sm (vQ f16_n.a) ?_
     refine sv (v := (vQ f16_n.a)) (by kernel_rfl) ?_
     refine sv (v := (vP (some ⟨f16_n.a, 4, none⟩))) (by kernel_rfl) ?_
     refine sv (v := (vQ (rt sb f16_a))) (x_load1 rfl underlying173 rfl ((Holds.rdf H43_ 2 rfl) 4 (vQ (rt sb f16_a)) rfl)) ?_
     refine sv (v := (vQ (rt sb f16_a))) (x_assign rfl) ?_
     refine wpList_nil (X_blkN (X_then ?_))
     have H48_ := ((Holds.bring (Holds.bring (Holds.bring H43_ 5 rfl) 5 rfl) 4 rfl) :)
     have H49_ := Holds.cons_cx (sb := sb) (f := (⟨true, f16_n, f16_b⟩ : Fr K)) (C := C1) (x := (rt sb f16_a)) H48_
     have H50_ := H49_
     have H51_ := Holds.pkF H50_ [0, 1, 0, 1, 0, 0] 0
     exact ⟨⟨((⟨true, f16_n, f16_b⟩ : Fr K) :: C1), f16_a⟩, ⟨_, congrArg (fun e => mkA 61 e []) (ch (ch (ch (ch rfl rfl) rfl) rfl) rfl), H51_, S45_, (hpl), (hTk.2.1), (by rw [heq]; exact isect_l (by omega) (by rw [m41_h]; simp; try omega))⟩, (by first | (simp [ino]; done) | (simp [ino]; omega))⟩
    ·have c47_fp : ¬ (0 < O.cm m41_.2 kb) := of_decide_eq_false c47_f
     refine C_reg ?_
     refine sm (vQ f16_n.a) ?_
     refine sv (v := (vQ f16_n.a)) (by kernel_rfl) ?_
     refine sv (v := (vP (some ⟨f16_n.a, 5, none⟩))) (by kernel_rfl) ?_
     refine sv (v := (vQ (rt sb f16_b))) (x_load1 rfl underlying173 rfl ((Holds.rdf H43_ 2 rfl) 5 (vQ (rt sb f16_b)) rfl)) ?_
     refine sv (v := (vQ (rt sb f16_b))) (x_assign rfl) ?_
     refine wpList_nil (X_blkN (X_then ?_))
     have H52_ := ((Holds.bring (Holds.bring (Holds.bring H43_ 5 rfl) 4 rfl) 4 rfl) :)
     have H53_ := Holds.cons_cx (sb := sb) (f := (⟨false, f16_n, f16_a⟩ : Fr K)) (C := C1) (x := (rt sb f16_b)) H52_
     have H54_ := H53_
     have H55_ := Holds.pkF H54_ [0, 1, 0, 1, 0, 0] 0
     exact ⟨⟨((⟨false, f16_n, f16_a⟩ : Fr K) :: C1), f16_b⟩, ⟨_, congrArg (fun e => mkA 61 e []) (ch (ch (ch (ch rfl rfl) rfl) rfl) rfl), H55_, S45_, (hpl), (hTk.2.2), (by rw [heq]; exact isect_r (by omega) (by rw [m41_h]; simp; try omega))⟩, (by first | (simp [ino]; done) | (simp [ino]; omega))⟩
   ·skip
    have m56_ : (rmx f16_a) = none := isNone_none (by simpa using c40_f)
    refine A_tkN 10 (j := 9) (dj := 34) (b := false) rfl (by kernel_rfl) rfl rfl (congrArg vB c40_f) (by decide) hq38_ ?_
    refine A_tkN 11 (j := 9) (dj := 34) (b := false) rfl (by kernel_rfl) rfl rfl (congrArg vB c40_f) (by decide) hq38_ ?_
    refine A_tkN 12 (j := 9) (dj := 34) (b := false) rfl (by kernel_rfl) rfl rfl (congrArg vB c40_f) (by decide) hq38_ ?_
    refine A_tkN 13 (j := 9) (dj := 34) (b := false) rfl (by kernel_rfl) rfl rfl (congrArg vB c40_f) (by decide) hq38_ ?_
    refine A_tkN 14 (j := 9) (dj := 34) (b := false) rfl (by kernel_rfl) rfl rfl (congrArg vB c40_f) (by decide) hq38_ ?_
    refine A_tkN 15 (j := 9) (dj := 34) (b := false) rfl (by kernel_rfl) rfl rfl (congrArg vB c40_f) (by decide) hq38_ ?_
    refine A_tkN 16 (j := 9) (dj := 34) (b := false) rfl (by kernel_rfl) rfl rfl (congrArg vB c40_f) (by decide) hq38_ ?_
    refine A_tkN 17 (j := 9) (dj := 34) (b := false) rfl (by kernel_rfl) rfl rfl (congrArg vB c40_f) (by decide) hq38_ ?_
    refine A_tkN 18 (j := 9) (dj := 34) (b := false) rfl (by kernel_rfl) rfl rfl (congrArg vB c40_f) (by decide) hq38_ ?_
    refine A_tkN 19 (j := 9) (dj := 34) (b := false) rfl (by kernel_rfl) rfl rfl (congrArg vB c40_f) (by decide) hq38_ ?_
    refine A_tkN 20 (j := 9) (dj := 34) (b := false) rfl (by kernel_rfl) rfl rfl (congrArg vB c40_f) (by decide) hq38_ ?_
    refine A_tk 21 (v := (vB false)) rfl (by kernel_rfl) (fun w hS => (x_pickF (congrArg vB c40_f) rfl)) hq38_ ?_
    refine A_done (by kernel_rfl) ?_
    refine (X_then (hK36_ _ _ ?_))
    refine C_condF rfl ?_
    refine C_reg ?_
    refine sm (vQ f16_n.a) ?_
    refine sv (v := (vQ f16_n.a)) (by kernel_rfl) ?_
    refine sv (v := (vP (some ⟨f16_n.a, 5, none⟩))) (by kernel_rfl) ?_
    refine sv (v := (vQ (rt sb f16_b))) (x_load1 rfl underlying173 rfl ((Holds.rdf H37_ 2 rfl) 5 (vQ (rt sb f16_b)) rfl)) ?_
    refine sv (v := (vQ (rt sb f16_b))) (x_assign rfl) ?_
    refine wpList_nil (X_blkN (X_then ?_))
    have H57_ := ((Holds.bring (Holds.bring (Holds.bring H37_ 5 rfl) 4 rfl) 4 rfl) :)
    have H58_ := Holds.cons_cx (sb := sb) (f := (⟨false, f16_n, f16_a⟩ : Fr K)) (C := C1) (x := (rt sb f16_b)) H57_
    have H59_ := H58_
    have H60_ := Holds.pkF H59_ [0, 1, 0, 1, 0, 0] 0
    exact ⟨⟨((⟨false, f16_n, f16_a⟩ : Fr K) :: C1), f16_b⟩, ⟨_, congrArg (fun e => mkA 61 e []) (ch (ch (ch (ch rfl rfl) rfl) rfl) rfl), H60_, (Same.trans S34_ (Same.drew _)), (hpl), (hTk.2.2), (by rw [heq]; exact isect_r (by omega) (by rw [m56_]; simp; try omega))⟩, (by first | (simp [ino]; done) | (simp [ino]; omega))⟩
  ·have c35_fp : ¬ (icmp O kb ke f16_n.kb f16_n.ke ≠ 0) := of_decide_eq_false c35_f
   refine C_exit (X_thenX (X_thenX (X_blkHit ?_)))
   refine (X_then (hK8_ _ _ ?_))
   refine cR fun _ hK61_ => ?_
   refine sm (vQ f16_n.a) ?_
   refine sm (vQ tb) ?_
   refine sv (v := (vQ tb)) (by kernel_rfl) ?_
   refine sv (v := (vP (some ⟨tb, 2, none⟩))) (by kernel_rfl) ?_
   refine sv (v := (vQ sb)) (x_load1 rfl underlying173 rfl ((Holds.rd H31_ 6 rfl) 2 (vQ sb) rfl)) ?_
   refine sv (v := (vB true)) (x_cast (x_nePN rfl rfl underlying173 z182 (by decide) (Holds.blk H31_ 2 rfl) (Holds.blk H31_ 7 rfl)) (congrArg vB (decide_eq_true hpc27_))) ?_
   refine sv (v := (vB true)) (x_assign rfl) ?_
   refine wn (hK61_ _ _ ?_)
   refine C_ret ?_
   refine R_any (v := (vB true)) (run_results1 rfl rfl) ?_
   have H62_ := ((Holds.bring (Holds.bring (Holds.bring H31_ 4 rfl) 4 rfl) 4 rfl) :)
   have H63_ := Holds.nd_tr (n := f16_n) (a := f16_a) (b := f16_b) H62_
   have H64_ := H63_
   have H65_ := ((Holds.bring (Holds.bring H64_ 3 rfl) 1 rfl) :)
   have H66_ := Holds.plug_in (C := C1) (t := (Tr.nd f16_n f16_a f16_b)) H65_
   have H67_ := H66_; rw [hpl] at H67_
   have H68_ := Holds.pkF H67_ [1, 2, 0, 1] 1
   exact ⟨_, _, rfl, ⟨(congrArg vB ((by rw [heq]; first | rfl | (simp [isect]; omega) | (simp_all [isect])) : true = (isect O kb ke W))), rfl⟩, S34_, H68_⟩
end Go.Proofs.YtlnihndjepjagaaGreat
set_option linter.unusedVariables false
set_option linter.unusedSimpArgs false
namespace Go.Proofs.YtlnihndjepjagaaGreat
open Go Go.RowKit Gw Tryz
open Go.Value renaming int → vI, bool → vB, slice → vS, pointer → vP, agg → vA, tuple → vT

section
variable {K : Type} (O : KO K)
section
variable {σ : Type} (step : σ → ND K → σ × Bool)
def TAll (Q : ND K → Prop) : Tr K → Prop | .lf => True | .nd n u v => Q n ∧ TAll Q u ∧ TAll Q v
end
structure CS (K : Type) where
  fm : Option ((Value × K) × (Value × K))
  ok : Bool
def CS.step (s : CS K) (n : ND K) : CS K × Bool :=
  match s.fm with
  | none => (⟨some ((n.b, n.kb), (n.e, n.ke)), s.ok⟩, true)
  | some (f, m) => if O.cm m.2 n.kb < 0 then (⟨s.fm, false⟩, false) else (⟨some (f, if 0 < O.cm n.ke m.2 then (n.e, n.ke) else m), s.ok⟩, true)
def CS.f (s : CS K) : Value := match s.fm with | none => .nilIface | some x => x.1.1
def CS.m (s : CS K) : Value := match s.fm with | none => .nilIface | some x => x.2.1
def CS.Ok (R : HP) (s : CS K) : Prop := ∀ x, s.fm = some x → O.Val R x.1.1 x.1.2 ∧ O.Val R x.2.1 x.2.2
end
theorem TAll.all {K : Type} {Q : ND K → Prop} (h : ∀ n, Q n) : ∀ t : Tr K, TAll Q t
  | .lf => trivial
  | .nd n u v => ⟨h n, TAll.all h u, TAll.all h v⟩
theorem TAll.of {K : Type} {Q : ND K → Prop} (he : ∀ n, Q n.er → Q n) : ∀ {t : Tr K}, (∀ n ∈ ino t, Q n) → TAll Q t
  | .lf, _ => trivial
  | .nd n u v, h => ⟨he n (h n.er (by simp [ino])), TAll.of he fun x hx => h x (by simp [ino, hx]), TAll.of he fun x hx => h x (by simp [ino, hx])⟩
/-! ### What a visit and a search mean -/
section
variable {K : Type} {O : KO K}
theorem KO.le_of {a b : K} (h : ¬ O.cm a b < 0) : O.cm b a ≤ 0 := by
  have := @KO.flip K O a b
  omega
theorem KO.not_le {a b : K} (h : O.cm a b < 0) : ¬ O.cm b a ≤ 0 := by
  have := @KO.flip K O a b
  omega
theorem KO.lt_le {a b c : K} (h1 : O.cm a b < 0) (h2 : O.cm b c ≤ 0) : O.cm a c < 0 := by
  refine Decidable.byContradiction fun h => ?_
  exact KO.not_le h1 (O.trans h2 (KO.le_of h))
theorem KO.lt_lt {a b c : K} (h1 : O.cm a b < 0) (h2 : O.cm b c < 0) : O.cm a c < 0 := KO.lt_le h1 (by omega)
theorem KO.ge {a b : K} : 0 ≤ O.cm a b ↔ O.cm b a ≤ 0 := by
  have h1 := @KO.flip K O a b
  omega
def meets (O : KO K) (b e : K) (n : ND K) : Bool := decide (O.cm n.kb e < 0 ∧ O.cm b n.ke < 0)
theorem icmp_lt {b e kb ke : K} (hq : O.cm b e < 0) : icmp O b e kb ke < 0 ↔ O.cm e kb ≤ 0 := by
  unfold icmp
  by_cases h : O.cm e kb ≤ 0
  · rw [if_pos ⟨KO.lt_le hq h, h⟩]; simp [h]
  · rw [if_neg (fun h' => h h'.2)]
    split <;> simp [h]
theorem icmp_gt {b e kb ke : K} (hq : O.cm b e < 0) (hn : O.cm kb ke < 0) : 0 < icmp O b e kb ke ↔ O.cm ke b ≤ 0 := by
  unfold icmp
  have h1 := @KO.ge K O b ke
  by_cases h : O.cm e kb ≤ 0
  · rw [if_pos ⟨KO.lt_le hq h, h⟩]
    have : ¬ O.cm ke b ≤ 0 := KO.not_le (KO.lt_lt (KO.lt_le hq h) hn)
    simp [this]
  · rw [if_neg (fun h' => h h'.2)]
    split
    · simp; exact h1.1 (by assumption)
    · have : ¬ O.cm ke b ≤ 0 := fun h' => by have := h1.2 h'; omega
      simp [this]
theorem icmp_eq {b e kb ke : K} (hq : O.cm b e < 0) (hn : O.cm kb ke < 0) : icmp O b e kb ke = 0 ↔ O.cm kb e < 0 ∧ O.cm b ke < 0 := by
  have h1 := @icmp_lt K O b e kb ke hq
  have h2 := @icmp_gt K O b e kb ke hq hn
  have h3 := @KO.ge K O e kb
  have h4 := @KO.ge K O ke b
  have h5 := @KO.flip K O kb e
  have h6 := @KO.flip K O b ke
  omega
theorem pick_spec (a : Value × K) (ob : Option (Value × K)) : O.cm a.2 (pick O a ob).2 ≤ 0 ∧ (∀ b, ob = some b → O.cm b.2 (pick O a ob).2 ≤ 0) ∧ (pick O a ob = a ∨ ob = some (pick O a ob)) := by
  cases ob with
  | none => exact ⟨by rw [pick_none, O.refl]; exact Int.le_refl _, (fun b hb => by cases hb), .inl rfl⟩
  | some b =>
    by_cases h : 0 < O.cm b.2 a.2
    · rw [pick_gt h]
      exact ⟨by have := O.flip.2 h; omega, fun c hc => by cases hc; rw [O.refl]; exact Int.le_refl _, .inr rfl⟩
    · rw [pick_le h]
      exact ⟨by rw [O.refl]; exact Int.le_refl _, fun c hc => by cases hc; omega, .inl rfl⟩
theorem mx_spec : ∀ {t : Tr K}, LocT O t → ∀ m, rmx t = some m → (∀ n ∈ ino t, O.cm n.ke m.2 ≤ 0) ∧ ∃ n ∈ ino t, n.ke = m.2
  | .lf, _, m, hm => by cases hm
  | .nd n u v, h, m, hm => by
    obtain ⟨h1, h2, h3⟩ := h
    have hm' : m = (n.mx, n.km) := by simpa [rmx] using hm.symm
    subst hm'
    have p1 := pick_spec (O := O) (n.e, n.ke) (rmx u)
    have p2 := pick_spec (O := O) (pick O (n.e, n.ke) (rmx u)) (rmx v)
    have e1 := O.anti h1
    have hu : ∀ x ∈ ino u, O.cm x.ke n.km ≤ 0 := fun x hx => by
      cases hr : rmx u with
      | none => cases u with
        | lf => simp [ino] at hx
        | nd _ _ _ => cases hr
      | some q => rw [e1]; exact O.trans ((mx_spec h2 q hr).1 x hx) (O.trans (p1.2.1 q hr) p2.1)
    have hv : ∀ x ∈ ino v, O.cm x.ke n.km ≤ 0 := fun x hx => by
      cases hr : rmx v with
      | none => cases v with
        | lf => simp [ino] at hx
        | nd _ _ _ => cases hr
      | some q => rw [e1]; exact O.trans ((mx_spec h3 q hr).1 x hx) (p2.2.1 q hr)
    refine ⟨fun x hx => ?_, ?_⟩
    · have hx' : x ∈ ino u ∨ x = n.er ∨ x ∈ ino v := by simpa [ino] using hx
      rcases hx' with hx | rfl | hx
      · exact hu x hx
      · show O.cm n.ke n.km ≤ 0
        rw [e1]; exact O.trans p1.1 p2.1
      · exact hv x hx
    · show ∃ x ∈ ino u ++ n.er :: ino v, x.ke = n.km
      rcases p2.2.2 with h | h
      · rcases p1.2.2 with h' | h'
        · exact ⟨n.er, by simp, by show n.ke = n.km; rw [e1, h, h']⟩
        · obtain ⟨x, hx, he⟩ := (mx_spec h2 _ h').2
          exact ⟨x, by simp [hx], by rw [he, e1, h]⟩
      · obtain ⟨x, hx, he⟩ := (mx_spec h3 _ h).2
        exact ⟨x, by simp [hx], by rw [he, e1]⟩
def Prp (O : KO K) (L : List (ND K)) : Prop := ∀ n ∈ L, O.cm n.kb n.ke < 0
theorem not_bef {x y : ND K} (h : ¬ bef O y.kb y.ke x) : O.cm x.kb y.kb ≤ 0 := KO.le_of fun h' => h (.inl h')
theorem srt_nd {n : ND K} {u v : Tr K} (h : srt O (ino (.nd n u v))) : srt O (ino u) ∧ srt O (ino v) ∧ (∀ x ∈ ino u, O.cm x.kb n.kb ≤ 0) ∧ (∀ y ∈ ino v, O.cm n.kb y.kb ≤ 0) := by
  unfold srt at *
  rw [ino, List.pairwise_append, List.pairwise_cons] at h
  exact ⟨h.1, h.2.1.2, fun x hx => not_bef (y := n.er) (h.2.2 x hx n.er (by simp)), fun y hy => not_bef (x := n.er) (h.2.1.1 y hy)⟩
theorem meets_icmp {b e : K} {n : ND K} (hq : O.cm b e < 0) (hn : O.cm n.kb n.ke < 0) : meets O b e n = decide (icmp O b e n.kb n.ke = 0) := by
  unfold meets
  exact decide_eq_decide.2 (icmp_eq hq hn).symm
theorem nmeet {b e : K} {n : ND K} (h : O.cm e n.kb ≤ 0 ∨ O.cm n.ke b ≤ 0) : meets O b e n = false := by
  refine decide_eq_false fun h' => ?_
  rcases h with h | h
  · exact KO.not_le h'.1 h
  · exact KO.not_le h'.2 h
section
variable {σ : Type} {step : σ → ND K → σ × Bool}
end
theorem isect_eq {b e : K} (hq : O.cm b e < 0) : ∀ {t : Tr K}, srt O (ino t) → LocT O t → Prp O (ino t) → isect O b e t = (ino t).any (meets O b e)
  | .lf, _, _, _ => by simp [isect, ino]
  | .nd n u v, hs, hl, hp => by
    obtain ⟨hsu, hsv, hu, hv⟩ := srt_nd hs
    have hn : O.cm n.kb n.ke < 0 := hp n.er (by simp [ino])
    have hpu : Prp O (ino u) := fun x hx => hp x (by simp [ino, hx])
    have hpv : Prp O (ino v) := fun x hx => hp x (by simp [ino, hx])
    have iu := isect_eq hq (t := u) hsu hl.2.1 hpu
    have iv := isect_eq hq (t := v) hsv hl.2.2 hpv
    have hm : meets O b e n.er = decide (icmp O b e n.kb n.ke = 0) := meets_icmp (n := n.er) hq hn
    have hsplit : (ino (.nd n u v)).any (meets O b e) = ((ino u).any (meets O b e) || (meets O b e n.er || (ino v).any (meets O b e))) := by simp [ino]
    rw [hsplit]
    by_cases h1 : icmp O b e n.kb n.ke = 0
    · rw [isect, if_pos h1, hm, decide_eq_true h1]; simp
    · have hm' : meets O b e n.er = false := by rw [hm]; exact decide_eq_false h1
      by_cases h2 : (match rmx u with | none => false | some m => decide (0 < O.cm m.2 b)) = true
      · rw [isect_l h1 h2, iu]
        cases hr : rmx u with
        | none => rw [hr] at h2; cases h2
        | some m =>
          rw [hr] at h2
          have h2' : 0 < O.cm m.2 b := of_decide_eq_true h2
          obtain ⟨x, hx, he⟩ := (mx_spec hl.2.1 m hr).2
          cases ha : (ino u).any (meets O b e) with
          | true => simp
          | false =>
            have hxm : meets O b e x = false := by
              have := List.any_eq_false.1 ha x hx
              simpa using this
            have hxm' := of_decide_eq_false hxm
            have h3 : O.cm b x.ke < 0 := by rw [he]; exact O.flip.2 h2'
            have h4 : O.cm e x.kb ≤ 0 := KO.le_of fun h => hxm' ⟨h, h3⟩
            have h5 : O.cm e n.kb ≤ 0 := O.trans h4 (hu x hx)
            have : (ino v).any (meets O b e) = false := List.any_eq_false.2 fun y hy => by rw [nmeet (.inl (O.trans h5 (hv y hy)))]; simp
            simp [hm', this]
      · rw [isect_r h1 h2, iv]
        have : (ino u).any (meets O b e) = false := List.any_eq_false.2 fun x hx => by
          cases hr : rmx u with
          | none => cases u with
            | lf => simp [ino] at hx
            | nd _ _ _ => cases hr
          | some m =>
            rw [hr] at h2
            have h2' : ¬ 0 < O.cm m.2 b := fun h => h2 (decide_eq_true h)
            have h3 := (mx_spec hl.2.1 m hr).1 x hx
            rw [nmeet (.inr (O.trans h3 (by omega)))]; simp
        simp [hm', this]
/-! ### What Contains means -/
end

end Go.Proofs.YtlnihndjepjagaaGreat
set_option linter.unusedVariables false
set_option linter.unusedSimpArgs false
namespace Go.Proofs.YtlnihndjepjagaaGreat
open Go Go.RowKit Gw Tryz
open Go.Value renaming int → vI, bool → vB, slice → vS, pointer → vP, agg → vA, tuple → vT

section
variable {K : Type} {O : KO K}
def nk (kb ke : K) (n : ND K) : Prop := ¬ (n.kb = kb ∧ n.ke = ke)
theorem nk_left {kb ke : K} {C : List (Fr K)} {n : ND K} {a b : Tr K} (hs : srt O (inl C ++ ino (.nd n a b) ++ inr C)) (hb : bef O kb ke n) (h : ∀ x ∈ inl C ++ inr C, nk kb ke x) : ∀ x ∈ inl ((⟨true, n, b⟩ : Fr K) :: C) ++ inr ((⟨true, n, b⟩ : Fr K) :: C), nk kb ke x := by
  intro x hx
  have hx' : x ∈ inl C ∨ x = n.er ∨ x ∈ ino b ∨ x ∈ inr C := by simpa [inl, inr] using hx
  have hn : ¬ bef O kb ke ({ n with kb := kb, ke := ke } : ND K) := by
    rintro (h1 | ⟨_, h1⟩)
    · have h2 : O.cm kb kb < 0 := h1; rw [O.refl] at h2; omega
    · have h2 : O.cm ke ke < 0 := h1; rw [O.refl] at h2; omega
  have self : ∀ y : ND K, bef O kb ke y → nk kb ke y := by
    rintro y hy ⟨e1, e2⟩
    subst e1; subst e2
    rcases hy with h1 | ⟨_, h1⟩
    · rw [O.refl] at h1; omega
    · rw [O.refl] at h1; omega
  rcases hx' with hx | rfl | hx | hx
  · exact h x (List.mem_append.2 (.inl hx))
  · exact self n.er hb
  · refine self x (bef_mono (x := n.er) hb ?_)
    unfold srt at hs
    rw [List.pairwise_append, List.pairwise_append] at hs
    have := hs.1.2.1
    rw [ino, List.pairwise_append, List.pairwise_cons] at this
    exact this.2.1.1 x hx
  · exact h x (List.mem_append.2 (.inr hx))
theorem nk_right {kb ke : K} {C : List (Fr K)} {n : ND K} {a b : Tr K} (hs : srt O (inl C ++ ino (.nd n a b) ++ inr C)) (hb : ¬ bef O kb ke n) (hne : nk kb ke n) (h : ∀ x ∈ inl C ++ inr C, nk kb ke x) : ∀ x ∈ inl ((⟨false, n, a⟩ : Fr K) :: C) ++ inr ((⟨false, n, a⟩ : Fr K) :: C), nk kb ke x := by
  intro x hx
  have hx' : x ∈ inl C ∨ x ∈ ino a ∨ x = n.er ∨ x ∈ inr C := by simpa [inl, inr] using hx
  rcases hx' with hx | hx | rfl | hx
  · exact h x (List.mem_append.2 (.inl hx))
  · rintro ⟨e1, e2⟩
    subst e1; subst e2
    unfold srt at hs
    rw [List.pairwise_append, List.pairwise_append] at hs
    have := hs.1.2.1
    rw [ino, List.pairwise_append] at this
    have h2 : ¬ bef O n.kb n.ke x := this.2.2 x hx n.er (by simp)
    have f1 := @O.flip n.kb x.kb
    have f2 := @O.flip n.ke x.ke
    have f3 := @O.flip x.kb n.kb
    have f4 := @O.flip x.ke n.ke
    unfold bef at hb h2
    have e1 : O.cm n.kb x.kb = 0 := by omega
    have e3 : O.cm x.kb n.kb = 0 := by rw [O.anti e1]; exact O.refl _
    have e2 : O.cm n.ke x.ke = 0 := by omega
    exact hne ⟨O.anti e1, O.anti e2⟩
  · exact hne
  · exact h x (List.mem_append.2 (.inr hx))
theorem nk_end {kb ke : K} {C : List (Fr K)} (h : ∀ x ∈ inl C ++ inr C, nk kb ke x) : ∀ x ∈ ino (plug C (.lf : Tr K)), nk kb ke x := by
  rw [ino_plug]
  intro x hx
  exact h x (by simpa [ino] using hx)
theorem nk_of {kb ke : K} {n : ND K} (h : ¬ (O.cm kb n.kb = 0 ∧ O.cm ke n.ke = 0)) : nk kb ke n := by
  rintro ⟨e1, e2⟩
  subst e1; subst e2
  exact h ⟨O.refl _, O.refl _⟩
end

set_option maxHeartbeats 16000000 in
theorem itFind0 (R : HP) (K : Type) (O : KO K) (tb sb : Nat) (cnt : Int) (sc : List Value) (W : Tr K) (it jt : TypeId) (ix jx : Value) (kb ke : K) (hW : TOk O R W) (hs : srt O (ino W)) (hb : O.Val R (Value.iface it ix) kb) (he : O.Val R (Value.iface jt jx) ke) :
    Tri Tryz.prog 164 #[(vQ tb), (vA #[((Value.iface it ix)), ((Value.iface jt jx))])] R [cl tb 185 [(vQ (rt sb W)), (vI .i64 cnt), (vQ sb)], tr sb sb W, clf sb 182 sc] (fun v__ post__ => (v__ = (vQ sb) ∧ post__ = [cl tb 185 [(vQ (rt sb W)), (vI .i64 cnt), (vQ sb)], tr sb sb W, clf sb 182 sc] ∧ (∀ x ∈ ino W, nk kb ke x)) ∨ (∃ (C : List (Fr K)) (n : ND K) (a b : Tr K), v__ = (vQ n.a) ∧ post__ = [cl tb 185 [(vQ (rt sb W)), (vI .i64 cnt), (vQ sb)], clf n.a 182 [n.b, n.e, n.v, n.mx, (vQ (rt sb a)), (vQ (rt sb b)), (vQ (pa sb C)), (vI .i64 n.c)], tr sb n.a a, tr sb n.a b, cx sb n.a C, clf sb 182 sc] ∧ (plug C (.nd n a b) = W) ∧ (n.kb = kb ∧ n.ke = ke))) := by
 refine Tri.into (n := 70) (al := [(vQ tb), (vA #[((Value.iface it ix)), ((Value.iface jt jx))])]) func164 rfl ntmps164 rfl rfl fun w F H => ?_
 refine cR fun _ hK1_ => ?_
 refine S_list (T_box (v := (vA #[((Value.iface it ix)), ((Value.iface jt jx))])) rfl H ?_)
 intro b2_ w3_ S5_ H4_
 have S6_ := Same.trans (Same.refl w) S5_
 refine sv (v := (vP none)) (x_assign rfl) ?_
 refine wn (hK1_ _ _ ?_)
 refine cR fun _ hK7_ => ?_
 refine sm (vQ tb) ?_
 refine sv (v := (vQ tb)) (by kernel_rfl) ?_
 refine sv (v := (vQ tb)) (by kernel_rfl) ?_
 refine sv (v := (vQ (rt sb W))) (x_load1 rfl underlying173 rfl ((Holds.rd H4_ 2 rfl) 0 (vQ (rt sb W)) rfl)) ?_
 refine sv (v := (vQ (rt sb W))) (x_assign rfl) ?_
 refine wn (hK7_ _ _ ?_)
 refine C_seq (fun _ hK8_ => ?_)
 refine C_block ?_
 have H9_ : Holds w3_ (cx sb (rt sb W) ([] : List (Fr K)) :: cl b2_ 177 [((Value.iface it ix)), ((Value.iface jt jx))] :: ro R :: cl tb 185 [(vQ (rt sb W)), (vI .i64 cnt), (vQ sb)] :: tr sb sb W :: clf sb 182 sc :: F) := Holds.cx_nil H4_
 have eH10_ : tr sb sb W = tr sb (pa sb ([] : List (Fr K))) W := by first | rfl | (congr 1 <;> first | rfl | omega | (simp; done) | (simp; omega))
 have H10_ : Holds w3_ (cx sb (rt sb W) ([] : List (Fr K)) :: cl b2_ 177 [((Value.iface it ix)), ((Value.iface jt jx))] :: ro R :: cl tb 185 [(vQ (rt sb W)), (vI .i64 cnt), (vQ sb)] :: tr sb (pa sb ([] : List (Fr K))) W :: clf sb 182 sc :: F) := cast1 (P := fun c__ => Holds w3_ (cx sb (rt sb W) ([] : List (Fr K)) :: cl b2_ 177 [((Value.iface it ix)), ((Value.iface jt jx))] :: ro R :: cl tb 185 [(vQ (rt sb W)), (vI .i64 cnt), (vQ sb)] :: c__ :: clf sb 182 sc :: F)) eH10_ H9_
 refine C_loop (γ := (List (Fr K)) × (Tr K) × Value) (fun x__ a__ w1__ => match x__ with | ⟨C1, T, t4_v⟩ => ∃ h : Env, a__ = mkA 70 (upd (upd (upd (upd h 0 (vQ tb)) 3 (vQ b2_)) 4 t4_v) 5 (vQ (rt sb T))) [] ∧ Holds w1__ (cx sb (rt sb T) C1 :: cl b2_ 177 [((Value.iface it ix)), ((Value.iface jt jx))] :: ro R :: cl tb 185 [(vQ (rt sb W)), (vI .i64 cnt), (vQ sb)] :: tr sb (pa sb C1) T :: clf sb 182 sc :: F) ∧ Same w w1__ ∧ (plug C1 T = W) ∧ (TOk O R T) ∧ (∀ x ∈ inl C1 ++ inr C1, nk kb ke x)) (fun x__ => match x__ with | ⟨C1, T, t4_v⟩ => (ino T).length) (⟨([] : List (Fr K)), W, (vP none)⟩) ⟨_, congrArg (fun e => mkA 70 e []) (ch (ch (ch (ch rfl rfl) rfl) (rfl : (vP none) = ((vP none)))) rfl), H10_, S6_, (rfl), (hW), (fun x hx => by simp [inl, inr] at hx)⟩ ?_
 rintro ⟨C1, T, t4_v⟩ _ w11_ ⟨h, rfl, H12_, S13_, hpl, hTk, hnk⟩
 refine C_seq (fun _ hK14_ => ?_)
 refine cR fun _ hK15_ => ?_
 rcases T with _ | ⟨f16_n, f16_a, f16_b⟩
 ·skip
  have H17_ := H12_
  refine sm (vQ sb) ?_
  refine sm (vQ tb) ?_
  refine sv (v := (vQ tb)) (by kernel_rfl) ?_
  refine sv (v := (vP (some ⟨tb, 2, none⟩))) (by kernel_rfl) ?_
  refine sv (v := (vQ sb)) (x_load1 rfl underlying173 rfl ((Holds.rd H17_ 3 rfl) 2 (vQ sb) rfl)) ?_
  refine sv (v := (vB false)) (x_neP rfl rfl underlying173 z182) ?_
  refine wn (hK15_ _ _ ?_)
  refine C_condF rfl ?_
  refine C_exit (X_thenX (X_thenX (X_blkHit ?_)))
  refine (X_then (hK8_ _ _ ?_))
  refine cR fun _ hK18_ => ?_
  refine sm (vQ sb) ?_
  refine sv (v := (vQ sb)) (x_assign rfl) ?_
  refine wn (hK18_ _ _ ?_)
  refine C_ret ?_
  refine R_any (v := (vQ sb)) (run_results1 rfl rfl) ?_
  have H19_ := H17_
  have H20_ := ((Holds.bring H19_ 4 rfl) :)
  have H21_ := Holds.plug_in (C := C1) (t := (Tr.lf : Tr K)) H20_
  have H22_ := H21_; rw [hpl] at H22_
  have H23_ := Holds.pkF H22_ [2, 2, 0, 1] 1
  exact ⟨_, _, rfl, (.inl ⟨rfl, rfl, (by rw [← hpl]; exact nk_end hnk)⟩), S13_, H23_⟩
 ·skip
  have H24_ := H12_
  have H25_ := ((Holds.bring H24_ 4 rfl) :)
  have H26_ := Holds.tr_nd H25_
  refine sm (vQ f16_n.a) ?_
  refine sm (vQ tb) ?_
  refine sv (v := (vQ tb)) (by kernel_rfl) ?_
  refine sv (v := (vP (some ⟨tb, 2, none⟩))) (by kernel_rfl) ?_
  refine sv (v := (vQ sb)) (x_load1 rfl underlying173 rfl ((Holds.rd H26_ 6 rfl) 2 (vQ sb) rfl)) ?_
  have hpc27_ : f16_n.a ≠ sb := Holds.ne_f H26_ 0 rfl 7 rfl (by decide)
  refine sv (v := (vB true)) (x_cast (x_nePN rfl rfl underlying173 z182 (by decide) (Holds.blk H26_ 0 rfl) (Holds.blk H26_ 7 rfl)) (congrArg vB (decide_eq_true hpc27_))) ?_
  refine wn (hK15_ _ _ ?_)
  refine C_condT rfl ?_
  refine C_skip (X_then (hK14_ _ _ ?_))
  refine C_block ?_
  refine C_seq (fun _ hK28_ => ?_)
  refine A_start (S := fun w => (Rd f16_n.a [f16_n.b, f16_n.e, f16_n.v, f16_n.mx, (vQ (rt sb f16_a)), (vQ (rt sb f16_b)), (vQ (pa sb C1)), (vI .i64 f16_n.c)] w ∧ Blk w f16_n.a) ∧ RtRd w (rt sb f16_a) (rmx f16_a) ∧ RtRd w (rt sb f16_b) (rmx f16_b) ∧ Rd b2_ [((Value.iface it ix)), ((Value.iface jt jx))] w ∧ Sub R (hp w)) (N := 12) foll rfl rfl ?_
  have H29_ := Holds.drew_ H26_
  have hq30_ := And.intro ((And.intro (Holds.rdf H29_ 0 rfl) (Holds.blk H29_ 0 rfl))) (And.intro (Holds.tr_rd H29_ 1 rfl 7 rfl) (And.intro (Holds.tr_rd H29_ 2 rfl 7 rfl) (And.intro (Holds.rd H29_ 4 rfl) ((Holds.ro_at H29_ 5 rfl)))))
  refine A_tk 0 (v := (vQ b2_)) rfl (by kernel_rfl) (fun w hS => by kernel_rfl) hq30_ ?_
  refine A_tk 1 (v := ((Value.iface it ix))) rfl (by kernel_rfl) (fun w hS => x_load1 rfl underlying175 rfl (hS.2.2.2.1 0 ((Value.iface it ix)) rfl)) hq30_ ?_
  refine A_tk 2 (v := (vQ f16_n.a)) rfl (by kernel_rfl) (fun w hS => x_move rfl) hq30_ ?_
  refine A_tk 3 (v := (vQ f16_n.a)) rfl (by kernel_rfl) (fun w hS => by kernel_rfl) hq30_ ?_
  refine A_tk 4 (v := (vQ f16_n.a)) rfl (by kernel_rfl) (fun w hS => by kernel_rfl) hq30_ ?_
  refine A_tk 5 (v := (vQ f16_n.a)) rfl (by kernel_rfl) (fun w hS => by kernel_rfl) hq30_ ?_
  refine A_tk 6 (v := (vQ f16_n.a)) rfl (by kernel_rfl) (fun w hS => by kernel_rfl) hq30_ ?_
  refine A_tk 7 (v := f16_n.b) rfl (by kernel_rfl) (fun w hS => x_load1 rfl underlying175 rfl (hS.1.1 0 f16_n.b rfl)) hq30_ ?_
  refine A_tk 8 (v := ((Value.iface it ix))) rfl (by kernel_rfl) (fun w hS => by kernel_rfl) hq30_ ?_
  refine A_tk 9 (v := ((Value.iface it ix))) rfl (by kernel_rfl) (fun w hS => x_move rfl) hq30_ ?_
  refine A_ready (i := 10) (rs := []) (by kernel_rfl) ?_
  refine AllR.cons ?_ AllR.nil
  refine A_op (ls' := #[true, true, true, true, true, true, true, true, true, true, true, false]) rfl (by kernel_rfl) (T_cmp rfl rfl (O.cmp hb (hTk.1.b)) H29_ 5 rfl ?_)
  intro w31_ S33_ H32_
  have S34_ := Same.trans (Same.trans S13_ (Same.drew _)) S33_
  refine ⟨⟨(And.intro (Holds.rdf H32_ 0 rfl) (Holds.blk H32_ 0 rfl)), Holds.tr_rd H32_ 1 rfl 7 rfl, Holds.tr_rd H32_ 2 rfl 7 rfl, Holds.rd H32_ 4 rfl, (Holds.ro_at H32_ 5 rfl)⟩, ?_⟩
  have hq35_ := And.intro ((And.intro (Holds.rdf H32_ 0 rfl) (Holds.blk H32_ 0 rfl))) (And.intro (Holds.tr_rd H32_ 1 rfl 7 rfl) (And.intro (Holds.tr_rd H32_ 2 rfl 7 rfl) (And.intro (Holds.rd H32_ 4 rfl) ((Holds.ro_at H32_ 5 rfl)))))
  refine A_tk 11 (v := (vI .i64 (O.cm kb f16_n.kb))) rfl (by kernel_rfl) (fun w hS => x_assign rfl) hq35_ ?_
  refine A_done (by kernel_rfl) ?_
  refine (X_then (hK28_ _ _ ?_))
  refine C_seq (fun _ hK36_ => ?_)
  refine A_start (S := fun w => (Rd f16_n.a [f16_n.b, f16_n.e, f16_n.v, f16_n.mx, (vQ (rt sb f16_a)), (vQ (rt sb f16_b)), (vQ (pa sb C1)), (vI .i64 f16_n.c)] w ∧ Blk w f16_n.a) ∧ RtRd w (rt sb f16_a) (rmx f16_a) ∧ RtRd w (rt sb f16_b) (rmx f16_b) ∧ Rd b2_ [((Value.iface it ix)), ((Value.iface jt jx))] w ∧ Sub R (hp w)) (N := 12) foll rfl rfl ?_
  have H37_ := Holds.drew_ H32_
  have hq38_ := And.intro ((And.intro (Holds.rdf H37_ 0 rfl) (Holds.blk H37_ 0 rfl))) (And.intro (Holds.tr_rd H37_ 1 rfl 7 rfl) (And.intro (Holds.tr_rd H37_ 2 rfl 7 rfl) (And.intro (Holds.rd H37_ 4 rfl) ((Holds.ro_at H37_ 5 rfl)))))
  refine A_tk 0 (v := (vP (some ⟨b2_, 1, none⟩))) rfl (by kernel_rfl) (fun w hS => by kernel_rfl) hq38_ ?_
  refine A_tk 1 (v := ((Value.iface jt jx))) rfl (by kernel_rfl) (fun w hS => x_load1 rfl underlying175 rfl (hS.2.2.2.1 1 ((Value.iface jt jx)) rfl)) hq38_ ?_
  refine A_tk 2 (v := (vQ f16_n.a)) rfl (by kernel_rfl) (fun w hS => x_move rfl) hq38_ ?_
  refine A_tk 3 (v := (vQ f16_n.a)) rfl (by kernel_rfl) (fun w hS => by kernel_rfl) hq38_ ?_
  refine A_tk 4 (v := (vQ f16_n.a)) rfl (by kernel_rfl) (fun w hS => by kernel_rfl) hq38_ ?_
  refine A_tk 5 (v := (vQ f16_n.a)) rfl (by kernel_rfl) (fun w hS => by kernel_rfl) hq38_ ?_
  refine A_tk 6 (v := (vP (some ⟨f16_n.a, 1, none⟩))) rfl (by kernel_rfl) (fun w hS => by kernel_rfl) hq38_ ?_
  refine A_tk 7 (v := f16_n.e) rfl (by kernel_rfl) (fun w hS => x_load1 rfl underlying175 rfl (hS.1.1 1 f16_n.e rfl)) hq38_ ?_
  refine A_tk 8 (v := ((Value.iface jt jx))) rfl (by kernel_rfl) (fun w hS => by kernel_rfl) hq38_ ?_
  refine A_tk 9 (v := ((Value.iface jt jx))) rfl (by kernel_rfl) (fun w hS => x_move rfl) hq38_ ?_
  refine A_ready (i := 10) (rs := []) (by kernel_rfl) ?_
  refine AllR.cons ?_ AllR.nil
  refine A_op (ls' := #[true, true, true, true, true, true, true, true, true, true, true, false]) rfl (by kernel_rfl) (T_cmp rfl rfl (O.cmp he (hTk.1.e)) H37_ 5 rfl ?_)
  intro w39_ S41_ H40_
  have S42_ := Same.trans (Same.trans S34_ (Same.drew _)) S41_
  refine ⟨⟨(And.intro (Holds.rdf H40_ 0 rfl) (Holds.blk H40_ 0 rfl)), Holds.tr_rd H40_ 1 rfl 7 rfl, Holds.tr_rd H40_ 2 rfl 7 rfl, Holds.rd H40_ 4 rfl, (Holds.ro_at H40_ 5 rfl)⟩, ?_⟩
  have hq43_ := And.intro ((And.intro (Holds.rdf H40_ 0 rfl) (Holds.blk H40_ 0 rfl))) (And.intro (Holds.tr_rd H40_ 1 rfl 7 rfl) (And.intro (Holds.tr_rd H40_ 2 rfl 7 rfl) (And.intro (Holds.rd H40_ 4 rfl) ((Holds.ro_at H40_ 5 rfl)))))
  refine A_tk 11 (v := (vI .i64 (O.cm ke f16_n.ke))) rfl (by kernel_rfl) (fun w hS => x_assign rfl) hq43_ ?_
  refine A_done (by kernel_rfl) ?_
  refine (X_then (hK36_ _ _ ?_))
  refine C_seq (fun _ hK44_ => ?_)
  refine cR fun _ hK45_ => ?_
  refine sm (vI .i64 (O.cm kb f16_n.kb)) ?_
  refine sv (v := (vB (decide (O.cm kb f16_n.kb = 0)))) (x_bin rfl rfl rfl) ?_
  refine sm (vB (decide (O.cm kb f16_n.kb = 0))) ?_
  rcases Bool.eq_false_or_eq_true (decide (O.cm kb f16_n.kb = 0)) with c46_t | c46_f
  ·have c46_tp : O.cm kb f16_n.kb = 0 := of_decide_eq_true c46_t
   refine S_yes (j := 2) (dj := 42) (b := true) rfl rfl (congrArg vB c46_t) (T_val (v := (vI .i64 (O.cm ke f16_n.ke))) (x_move rfl) ?_)
   refine S_yes (j := 2) (dj := 42) (b := true) rfl rfl (congrArg vB c46_t) (T_val (v := (vB (decide (O.cm ke f16_n.ke = 0)))) (x_bin rfl rfl rfl) ?_)
   refine S_list (T_pickT (v := (vB (decide (O.cm ke f16_n.ke = 0)))) (congrArg vB c46_t) rfl ?_)
   refine wn (hK45_ _ _ ?_)
   refine C_cond (b := decide (O.cm ke f16_n.ke = 0)) rfl (fun c47_t => ?_) (fun c47_f => ?_)
   ·have c47_tp : O.cm ke f16_n.ke = 0 := of_decide_eq_true c47_t
    refine cR fun _ hK48_ => ?_
    refine sm (vQ f16_n.a) ?_
    refine sv (v := (vQ f16_n.a)) (x_assign rfl) ?_
    refine wn (hK48_ _ _ ?_)
    refine C_ret (X_thenR (X_blkR (X_thenR (X_blkR (X_thenR ?_)))))
    refine R_any (v := (vQ f16_n.a)) (run_results1 rfl rfl) ?_
    have H49_ := Holds.pkF H40_ [5, 5, 0, 0, 0, 0, 1] 1
    exact ⟨_, _, rfl, (.inr ⟨C1, f16_n, f16_a, f16_b, rfl, rfl, (hpl), (⟨(O.anti (by omega)).symm, (O.anti (by omega)).symm⟩)⟩), S42_, H49_⟩
   ·have c47_fp : ¬ (O.cm ke f16_n.ke = 0) := of_decide_eq_false c47_f
    refine C_skip (X_then (hK44_ _ _ ?_))
    refine cR fun _ hK50_ => ?_
    refine sm (vI .i64 (O.cm kb f16_n.kb)) ?_
    refine sv (v := (vB (decide (O.cm kb f16_n.kb < 0)))) (x_bin rfl rfl rfl) ?_
    refine wn (hK50_ _ _ ?_)
    refine C_cond (b := decide (O.cm kb f16_n.kb < 0)) rfl (fun c51_t => ?_) (fun c51_f => ?_)
    ·have c51_tp : O.cm kb f16_n.kb < 0 := of_decide_eq_true c51_t
     refine C_reg ?_
     refine sm (vQ f16_n.a) ?_
     refine sv (v := (vQ f16_n.a)) (by kernel_rfl) ?_
     refine sv (v := (vP (some ⟨f16_n.a, 4, none⟩))) (by kernel_rfl) ?_
     refine sv (v := (vQ (rt sb f16_a))) (x_load1 rfl underlying173 rfl ((Holds.rdf H40_ 0 rfl) 4 (vQ (rt sb f16_a)) rfl)) ?_
     refine sv (v := (vQ (rt sb f16_a))) (x_assign rfl) ?_
     refine wpList_nil (X_blkN (X_then ?_))
     have H52_ := ((Holds.bring (Holds.bring (Holds.bring H40_ 3 rfl) 3 rfl) 2 rfl) :)
     have H53_ := Holds.cons_cx (sb := sb) (f := (⟨true, f16_n, f16_b⟩ : Fr K)) (C := C1) (x := (rt sb f16_a)) H52_
     have H54_ := H53_
     have H55_ := Holds.pkF H54_ [0, 1, 1, 1, 0, 0] 0
     exact ⟨⟨((⟨true, f16_n, f16_b⟩ : Fr K) :: C1), f16_a, t4_v⟩, ⟨_, congrArg (fun e => mkA 70 e []) (ch (ch (ch (ch rfl rfl) rfl) rfl) rfl), H55_, S42_, (hpl), (hTk.2.1), (nk_left (O := O) (a := f16_a) (by have := hs; rw [← hpl, ino_plug] at this; exact this) (by unfold bef; omega) hnk)⟩, (by first | (simp [ino]; done) | (simp [ino]; omega))⟩
    ·have c51_fp : ¬ (O.cm kb f16_n.kb < 0) := of_decide_eq_false c51_f
     refine cR fun _ hK56_ => ?_
     refine sm (vI .i64 (O.cm kb f16_n.kb)) ?_
     refine sv (v := (vB (decide (O.cm kb f16_n.kb = 0)))) (x_bin rfl rfl rfl) ?_
     refine wn (hK56_ _ _ ?_)
     refine C_condT (congrArg vB c46_t) ?_
     refine cR fun _ hK57_ => ?_
     refine sm (vI .i64 (O.cm ke f16_n.ke)) ?_
     refine sv (v := (vB (decide (O.cm ke f16_n.ke < 0)))) (x_bin rfl rfl rfl) ?_
     refine wn (hK57_ _ _ ?_)
     refine C_cond (b := decide (O.cm ke f16_n.ke < 0)) rfl (fun c58_t => ?_) (fun c58_f => ?_)
     ·have c58_tp : O.cm ke f16_n.ke < 0 := of_decide_eq_true c58_t
      refine C_reg ?_
      refine sm (vQ f16_n.a) ?_
      refine sv (v := (vQ f16_n.a)) (by kernel_rfl) ?_
      refine sv (v := (vP (some ⟨f16_n.a, 4, none⟩))) (by kernel_rfl) ?_
      refine sv (v := (vQ (rt sb f16_a))) (x_load1 rfl underlying173 rfl ((Holds.rdf H40_ 0 rfl) 4 (vQ (rt sb f16_a)) rfl)) ?_
      refine sv (v := (vQ (rt sb f16_a))) (x_assign rfl) ?_
      refine wpList_nil (X_blkN (X_then ?_))
      have H59_ := ((Holds.bring (Holds.bring (Holds.bring H40_ 3 rfl) 3 rfl) 2 rfl) :)
      have H60_ := Holds.cons_cx (sb := sb) (f := (⟨true, f16_n, f16_b⟩ : Fr K)) (C := C1) (x := (rt sb f16_a)) H59_
      have H61_ := H60_
      have H62_ := Holds.pkF H61_ [0, 1, 1, 1, 0, 0] 0
      exact ⟨⟨((⟨true, f16_n, f16_b⟩ : Fr K) :: C1), f16_a, t4_v⟩, ⟨_, congrArg (fun e => mkA 70 e []) (ch (ch (ch (ch rfl rfl) rfl) rfl) rfl), H62_, S42_, (hpl), (hTk.2.1), (nk_left (O := O) (a := f16_a) (by have := hs; rw [← hpl, ino_plug] at this; exact this) (by unfold bef; omega) hnk)⟩, (by first | (simp [ino]; done) | (simp [ino]; omega))⟩
     ·have c58_fp : ¬ (O.cm ke f16_n.ke < 0) := of_decide_eq_false c58_f
      refine C_reg ?_
      refine sm (vQ f16_n.a) ?_
      refine sv (v := (vQ f16_n.a)) (by kernel_rfl) ?_
      refine sv (v := (vP (some ⟨f16_n.a, 5, none⟩))) (by kernel_rfl) ?_
      refine sv (v := (vQ (rt sb f16_b))) (x_load1 rfl underlying173 rfl ((Holds.rdf H40_ 0 rfl) 5 (vQ (rt sb f16_b)) rfl)) ?_
      refine sv (v := (vQ (rt sb f16_b))) (x_assign rfl) ?_
      refine wpList_nil (X_blkN (X_then ?_))
      have H63_ := ((Holds.bring (Holds.bring (Holds.bring H40_ 3 rfl) 2 rfl) 2 rfl) :)
      have H64_ := Holds.cons_cx (sb := sb) (f := (⟨false, f16_n, f16_a⟩ : Fr K)) (C := C1) (x := (rt sb f16_b)) H63_
      have H65_ := H64_
      have H66_ := Holds.pkF H65_ [0, 1, 1, 1, 0, 0] 0
      exact ⟨⟨((⟨false, f16_n, f16_a⟩ : Fr K) :: C1), f16_b, t4_v⟩, ⟨_, congrArg (fun e => mkA 70 e []) (ch (ch (ch (ch rfl rfl) rfl) rfl) rfl), H66_, S42_, (hpl), (hTk.2.2), (nk_right (O := O) (b := f16_b) (by have := hs; rw [← hpl, ino_plug] at this; exact this) (by unfold bef; omega) (nk_of (O := O) (by omega)) hnk)⟩, (by first | (simp [ino]; done) | (simp [ino]; omega))⟩
  ·have c46_fp : ¬ (O.cm kb f16_n.kb = 0) := of_decide_eq_false c46_f
   refine S_no (j := 2) (dj := 42) (b := false) rfl rfl (congrArg vB c46_f) (by decide) ?_
   refine S_no (j := 2) (dj := 42) (b := false) rfl rfl (congrArg vB c46_f) (by decide) ?_
   refine S_list (T_pickF (v := (vB false)) (congrArg vB c46_f) rfl ?_)
   refine wn (hK45_ _ _ ?_)
   refine C_condF rfl ?_
   refine C_skip (X_then (hK44_ _ _ ?_))
   refine cR fun _ hK67_ => ?_
   refine sm (vI .i64 (O.cm kb f16_n.kb)) ?_
   refine sv (v := (vB (decide (O.cm kb f16_n.kb < 0)))) (x_bin rfl rfl rfl) ?_
   refine wn (hK67_ _ _ ?_)
   refine C_cond (b := decide (O.cm kb f16_n.kb < 0)) rfl (fun c68_t => ?_) (fun c68_f => ?_)
   ·have c68_tp : O.cm kb f16_n.kb < 0 := of_decide_eq_true c68_t
    refine C_reg ?_
    refine sm (vQ f16_n.a) ?_
    refine sv (v := (vQ f16_n.a)) (by kernel_rfl) ?_
    refine sv (v := (vP (some ⟨f16_n.a, 4, none⟩))) (by kernel_rfl) ?_
    refine sv (v := (vQ (rt sb f16_a))) (x_load1 rfl underlying173 rfl ((Holds.rdf H40_ 0 rfl) 4 (vQ (rt sb f16_a)) rfl)) ?_
    refine sv (v := (vQ (rt sb f16_a))) (x_assign rfl) ?_
    refine wpList_nil (X_blkN (X_then ?_))
    have H69_ := ((Holds.bring (Holds.bring (Holds.bring H40_ 3 rfl) 3 rfl) 2 rfl) :)
    have H70_ := Holds.cons_cx (sb := sb) (f := (⟨true, f16_n, f16_b⟩ : Fr K)) (C := C1) (x := (rt sb f16_a)) H69_
    have H71_ := H70_
    have H72_ := Holds.pkF H71_ [0, 1, 1, 1, 0, 0] 0
    exact ⟨⟨((⟨true, f16_n, f16_b⟩ : Fr K) :: C1), f16_a, t4_v⟩, ⟨_, congrArg (fun e => mkA 70 e []) (ch (ch (ch (ch rfl rfl) rfl) rfl) rfl), H72_, S42_, (hpl), (hTk.2.1), (nk_left (O := O) (a := f16_a) (by have := hs; rw [← hpl, ino_plug] at this; exact this) (by unfold bef; omega) hnk)⟩, (by first | (simp [ino]; done) | (simp [ino]; omega))⟩
   ·have c68_fp : ¬ (O.cm kb f16_n.kb < 0) := of_decide_eq_false c68_f
    refine cR fun _ hK73_ => ?_
    refine sm (vI .i64 (O.cm kb f16_n.kb)) ?_
    refine sv (v := (vB (decide (O.cm kb f16_n.kb = 0)))) (x_bin rfl rfl rfl) ?_
    refine wn (hK73_ _ _ ?_)
    refine C_condF (congrArg vB c46_f) ?_
    refine C_reg ?_
    refine sm (vQ f16_n.a) ?_
    refine sv (v := (vQ f16_n.a)) (by kernel_rfl) ?_
    refine sv (v := (vP (some ⟨f16_n.a, 5, none⟩))) (by kernel_rfl) ?_
    refine sv (v := (vQ (rt sb f16_b))) (x_load1 rfl underlying173 rfl ((Holds.rdf H40_ 0 rfl) 5 (vQ (rt sb f16_b)) rfl)) ?_
    refine sv (v := (vQ (rt sb f16_b))) (x_assign rfl) ?_
    refine wpList_nil (X_blkN (X_then ?_))
    have H74_ := ((Holds.bring (Holds.bring (Holds.bring H40_ 3 rfl) 2 rfl) 2 rfl) :)
    have H75_ := Holds.cons_cx (sb := sb) (f := (⟨false, f16_n, f16_a⟩ : Fr K)) (C := C1) (x := (rt sb f16_b)) H74_
    have H76_ := H75_
    have H77_ := Holds.pkF H76_ [0, 1, 1, 1, 0, 0] 0
    exact ⟨⟨((⟨false, f16_n, f16_a⟩ : Fr K) :: C1), f16_b, t4_v⟩, ⟨_, congrArg (fun e => mkA 70 e []) (ch (ch (ch (ch rfl rfl) rfl) rfl) rfl), H77_, S42_, (hpl), (hTk.2.2), (nk_right (O := O) (b := f16_b) (by have := hs; rw [← hpl, ino_plug] at this; exact this) (by unfold bef; omega) (nk_of (O := O) (by omega)) hnk)⟩, (by first | (simp [ino]; done) | (simp [ino]; omega))⟩

set_option maxHeartbeats 8000000 in
theorem itFind (R : HP) (K : Type) (O : KO K) (tb sb : Nat) (cnt : Int) (sc : List Value) (W : Tr K) (it jt : TypeId) (ix jx : Value) (kb ke : K) (hW : TOk O R W) (hs : srt O (ino W)) (hb : O.Val R (Value.iface it ix) kb) (he : O.Val R (Value.iface jt jx) ke) :
    Tri Tryz.prog 155 #[(vQ tb), (vA #[((Value.iface it ix)), ((Value.iface jt jx))])] R [cl tb 185 [(vQ (rt sb W)), (vI .i64 cnt), (vQ sb)], tr sb sb W, clf sb 182 sc] (fun v__ post__ => (v__ = (vP none) ∧ post__ = [cl tb 185 [(vQ (rt sb W)), (vI .i64 cnt), (vQ sb)], tr sb sb W, clf sb 182 sc] ∧ (∀ x ∈ ino W, nk kb ke x)) ∨ (∃ (C : List (Fr K)) (n : ND K) (a b : Tr K), v__ = (vQ n.a) ∧ post__ = [cl tb 185 [(vQ (rt sb W)), (vI .i64 cnt), (vQ sb)], clf n.a 182 [n.b, n.e, n.v, n.mx, (vQ (rt sb a)), (vQ (rt sb b)), (vQ (pa sb C)), (vI .i64 n.c)], tr sb n.a a, tr sb n.a b, cx sb n.a C, clf sb 182 sc] ∧ (plug C (.nd n a b) = W) ∧ (n.kb = kb ∧ n.ke = ke))) := by
 refine Tri.into (n := 18) (al := [(vQ tb), (vA #[((Value.iface it ix)), ((Value.iface jt jx))])]) func155 rfl ntmps155 rfl rfl fun w F H => ?_
 refine cR fun _ hK1_ => ?_
 refine S_list (T_box (v := (vA #[((Value.iface it ix)), ((Value.iface jt jx))])) rfl H ?_)
 intro b2_ w3_ S5_ H4_
 have S6_ := Same.trans (Same.refl w) S5_
 refine sv (v := (vP none)) (x_assign rfl) ?_
 refine wn (hK1_ _ _ ?_)
 refine cR fun _ hK7_ => ?_
 refine sm (vQ tb) ?_
 refine sv (v := (vA #[((Value.iface it ix)), ((Value.iface jt jx))])) (x_loadN (vs := [((Value.iface it ix)), ((Value.iface jt jx))]) rfl underlying177 rfl z177 rfl (Rd.cells (Holds.rd H4_ 0 rfl) 0 rfl)) ?_
 have H16_ := ((Holds.bring (Holds.bring (Holds.bring (Holds.bring H4_ 4 rfl) 4 rfl) 4 rfl) 4 rfl) :)
 refine S_list (T_call (al := [(vQ tb), (vA #[((Value.iface it ix)), ((Value.iface jt jx))])]) (pre := [cl tb 185 [(vQ (rt sb W)), (vI .i64 cnt), (vQ sb)], tr sb sb W, clf sb 182 sc]) rfl rfl cb164 (itFind0 R K O tb sb cnt sc W it jt ix jx kb ke (hW) (hs) (hb) (he)) H16_ ?_)
 rintro v8_ p20_ w17_ hq21_ S19_ H18_
 rcases hq21_ with ⟨rfl, rfl, he9_⟩ | ⟨C10_, n11_, a12_, b13_, rfl, rfl, he14_, he15_⟩
 ·skip
  have S22_ := Same.trans S6_ S19_
  refine sv (v := (vQ sb)) (x_assign rfl) ?_
  refine wn (hK7_ _ _ ?_)
  refine C_seq (fun _ hK24_ => ?_)
  refine cR fun _ hK25_ => ?_
  refine sm (vQ sb) ?_
  refine sm (vQ tb) ?_
  refine sv (v := (vQ tb)) (by kernel_rfl) ?_
  refine sv (v := (vP (some ⟨tb, 2, none⟩))) (by kernel_rfl) ?_
  refine sv (v := (vQ sb)) (x_load1 rfl underlying173 rfl ((Holds.rd H18_ 1 rfl) 2 (vQ sb) rfl)) ?_
  refine sv (v := (vB true)) (x_eqP rfl rfl underlying173 z182) ?_
  refine wn (hK25_ _ _ ?_)
  refine C_condT rfl ?_
  refine cR fun _ hK26_ => ?_
  refine sv (v := (vP none)) (x_assign rfl) ?_
  refine wn (hK26_ _ _ ?_)
  refine C_ret (X_thenR ?_)
  refine R_any (v := (vP none)) (run_results1 rfl rfl) ?_
  have H27_ := Holds.pkF H18_ [0, 0, 0, 0] 1
  exact ⟨_, _, rfl, (.inl ⟨rfl, rfl, (by first | assumption | omega | exact rfl)⟩), S22_, H27_⟩
 ·skip
  have S23_ := Same.trans S6_ S19_
  refine sv (v := (vQ n11_.a)) (x_assign rfl) ?_
  refine wn (hK7_ _ _ ?_)
  refine C_seq (fun _ hK28_ => ?_)
  refine cR fun _ hK29_ => ?_
  refine sm (vQ n11_.a) ?_
  refine sm (vQ tb) ?_
  refine sv (v := (vQ tb)) (by kernel_rfl) ?_
  refine sv (v := (vP (some ⟨tb, 2, none⟩))) (by kernel_rfl) ?_
  refine sv (v := (vQ sb)) (x_load1 rfl underlying173 rfl ((Holds.rd H18_ 1 rfl) 2 (vQ sb) rfl)) ?_
  have hpc30_ : n11_.a ≠ sb := Holds.ne_f H18_ 2 rfl 6 rfl (by decide)
  refine sv (v := (vB false)) (x_cast (x_eqPN rfl rfl underlying173 z182 (by decide) (Holds.blk H18_ 2 rfl) (Holds.blk H18_ 6 rfl)) (congrArg vB (decide_eq_false hpc30_))) ?_
  refine wn (hK29_ _ _ ?_)
  refine C_condF rfl ?_
  refine C_skip (X_then (hK28_ _ _ ?_))
  refine cR fun _ hK31_ => ?_
  refine sm (vQ n11_.a) ?_
  refine sv (v := (vQ n11_.a)) (by kernel_rfl) ?_
  refine sv (v := (vQ n11_.a)) (by kernel_rfl) ?_
  refine sv (v := (vQ n11_.a)) (x_assign rfl) ?_
  refine wn (hK31_ _ _ ?_)
  refine C_ret ?_
  refine R_any (v := (vQ n11_.a)) (run_results1 rfl rfl) ?_
  have H32_ := Holds.pkF H18_ [0, 0, 0, 0, 0, 0, 0] 1
  exact ⟨_, _, rfl, (.inr ⟨C10_, n11_, a12_, b13_, rfl, rfl, (by first | assumption | omega | exact rfl), (by first | assumption | omega | exact rfl)⟩), S23_, H32_⟩
end Go.Proofs.YtlnihndjepjagaaGreat
set_option linter.unusedVariables false
set_option linter.unusedSimpArgs false
namespace Go.Proofs.YtlnihndjepjagaaGreat
open Go Go.RowKit Gw Tryz
open Go.Value renaming int → vI, bool → vB, slice → vS, pointer → vP, agg → vA, tuple → vT

/-! ### Maps whose keys are places -/
section
variable {P : Program} {n : Nat} {e : Env} {w : World} {l : List SP} {K' : Value → World → Prop} {d : Option Nat} {ty : TypeId} {pos : String} {af : Array Edge} {g : Option (Nat × Bool)}
variable {k te s bb : Nat} {z : Option Value}
theorem ask_none (hu : P.underlying k = some (.pointer te)) (hz : tin P te = some (s, bb, z)) (hs : s ≠ 0) {a : Nat} (ha : Blk w a) : ∀ (es : List MapEntry) (m : List Nat) (i : Nat), es.map (·.key) = m.map pn → (∀ p ∈ m, Blk w p) → a ∉ m →
    (Instr.findAsking k (pn a) es i).run P w = .ok none w
  | [], [], i, _, _, _ => by simp [Instr.findAsking]
  | [], _ :: _, i, h, _, _ => by simp at h
  | _ :: _, [], i, h, _, _ => by simp at h
  | e :: es, x :: m, i, h, hb, hn => by
    simp only [List.map_cons, List.cons.injEq] at h
    have hne : a ≠ x := fun e => hn (by rw [e]; exact List.mem_cons_self ..)
    have ih := ask_none hu hz hs ha es m (i + 1) h.2 (fun p hp => hb p (List.mem_cons_of_mem _ hp)) (fun hm => hn (List.mem_cons_of_mem _ hm))
    unfold Instr.findAsking
    rw [h.1]
    have h1 : (Op.equal k (pn a) (pn x)).run P w = .ok (decide (a = x)) w := run_eqPN hu hz hs ha (hb x (List.mem_cons_self ..))
    simp only [Sem.run_bind, h1, Result.andThen_ok, decide_eq_false hne]
    simpa using ih
theorem key_none (hu : P.underlying k = some (.pointer te)) (hz : tin P te = some (s, bb, z)) (hs : s ≠ 0) {a : Nat} (ha : Blk w a) (es : List MapEntry) (m : List Nat) (h : es.map (·.key) = m.map pn) (hb : ∀ p ∈ m, Blk w p) (hn : a ∉ m) :
    (Instr.findKey k (pn a) es).run P w = .ok none w := by
  unfold Instr.findKey
  simp only [Sem.run_bind, run_underlying hu, Result.andThen_ok]
  cases es with
  | nil => simp [Instr.findNow]
  | cons x es =>
    have : Instr.findNow (.pointer te) (pn a) (x :: es) 0 = none := by simp [Instr.findNow, Instr.sameNow]
    rw [this]
    exact ask_none hu hz hs ha (x :: es) m 0 h hb hn
theorem checkKey_ptr (hu : P.underlying k = some (.pointer te)) (em : Bool) (v : Value) (q : Nat) : (Instr.checkKey em (q + 1) k v).run P w = .ok () w := by simp [Instr.checkKey, run_underlying hu]
theorem mp_keys {b : Nat} {m : List (Nat × Value)} {es : Array MapEntry} (he : es.toList.map (fun e => (e.key, e.val)) = m.map (fun p => (pn p.1, p.2))) : es.toList.map (·.key) = (m.map (·.1)).map pn := by
  have := congrArg (List.map (·.1)) he
  simpa [List.map_map, Function.comp_def] using this
theorem x_lookupPN {t el sz b2 : Nat} {x y : Operand} {b a : Nat} {m : List (Nat × Value)} {z0 : Value} (hx : ev n e x = .map (some b)) (hy : ev n e y = pn a) (hu : P.underlying k = some (.pointer te)) (hz : tin P te = some (s, bb, z)) (hs : s ≠ 0) (ht : P.underlying t = some (.map k el))
    (hz0 : tin P el = some (sz, b2, some z0)) (h : MpRd pn b m w) (ha : Blk w a) (hb : ∀ p ∈ m, Blk w p.1) (hn : ∀ p ∈ m, p.1 ≠ a) :
    (execOp (ev n e) ⟨d, .lookup t x y true, ty, pos, af, g⟩).run P w = .ok (.value (.tuple #[z0, .bool false])) w := by
  obtain ⟨es, clock, hh, he, _⟩ := h
  have hf := key_none hu hz hs ha es.toList (m.map (·.1)) (mp_keys (b := b) he) (fun p hp => by obtain ⟨q, hq, rfl⟩ := List.mem_map.1 hp; exact hb q hq) (fun hp => by obtain ⟨q, hq, e⟩ := List.mem_map.1 hp; exact hn q hq e)
  simp only [execOp]
  refine run_v _ ?_
  rw [hx, hy]
  simp only [Instr.lookup, Sem.run_bind, run_underlying ht, Result.andThen_ok, run_getObj hh, Sem.run_pure, checkKey_ptr hu, hf]
  simp [run_zeroValue hz0]
theorem T_mapUpdatePN {t el : Nat} {x y q : Operand} {b a : Nat} {m : List (Nat × Value)} {v : Value} (hx : ev n e x = .map (some b)) (hy : ev n e y = pn a) (hq : ev n e q = v) (hu : P.underlying k = some (.pointer te)) (hz : tin P te = some (s, bb, z)) (hs : s ≠ 0) (ht : P.underlying t = some (.map k el))
    (h : Holds w l) (i : Nat) (hi : l[i]? = some (mp pn b m)) (ha : Blk w a) (hb : ∀ p ∈ m, Blk w p.1) (hn : ∀ p ∈ m, p.1 ≠ a) (c : ∀ w', Same w w' → Holds w' (l.set i (mp pn b (m ++ [(a, v)]))) → K' undef w') : Stp P n e ⟨d, .mapUpdate t x y q, ty, pos, af, g⟩ w K' := by
  obtain ⟨es, clock, hh, he, hbo⟩ := h.mp_block i hi
  have hf := key_none hu hz hs ha es.toList (m.map (·.1)) (mp_keys (b := b) he) (fun p hp => by obtain ⟨q, hq, rfl⟩ := List.mem_map.1 hp; exact hb q hq) (fun hp => by obtain ⟨q, hq, e⟩ := List.mem_map.1 hp; exact hn q hq e)
  have hr : ∃ w', (Instr.mapUpdate t (.map (some b)) (pn a) v).run P w = .ok () w' ∧ Same w w' ∧ Holds w' (l.set i (mp pn b (m ++ [(a, v)]))) := by
    simp only [Instr.mapUpdate, Sem.run_bind, run_underlying ht, Result.andThen_ok, run_getObj hh, checkKey_ptr hu, hf, Go.MapKept.run_setObj_map _ hh]
    exact ⟨_, rfl, ⟨rfl, rfl, rfl⟩, h.mp_set i hi (o' := .map (es.push ⟨pn a, v, clock⟩) (clock + 1)) rfl ⟨_, _, rfl, by simp [he], by simpa using hbo.push (pn a) v⟩⟩
  obtain ⟨w', hr, hsm, hh'⟩ := hr
  refine .inr (.inl ⟨w', ?_, c w' hsm hh'⟩)
  simp only [execOp, hx, hy, hq]
  simp [hr]
end
/-! ### Blocks handed to what is only read; sets -/
def Alv (R : HP) (p : Nat) : Prop := ∃ cs T, R p = some (.cells cs T (0, 0))
theorem Alv.mono {R R' : HP} (s : Sub R R') {p : Nat} (h : Alv R p) : Alv R' p := by obtain ⟨cs, T, h⟩ := h; exact ⟨cs, T, s _ _ h⟩
theorem Alv.blk {R : HP} {w : World} {l : List SP} (h : Holds w l) (i : Nat) (hi : l[i]? = some (ro R)) {p : Nat} (hp : Alv R p) : Blk w p := by
  obtain ⟨cs, T, hp⟩ := hp
  exact ⟨cs, T, Holds.ro_sub h i hi _ _ hp⟩
theorem Holds.giftf {w : World} {l : List SP} {R : HP} {b : Nat} {T : TypeId} {cs : List Value} (h : Holds w (ro R :: clf b T cs :: l)) : ∃ R', Sub R R' ∧ R b = none ∧ R' b = some (.cells cs.toArray T (0, 0)) ∧ Holds w (ro R' :: l) := by
  obtain ⟨h0, hA, hd, h1⟩ := Holds.lend h
  have hb : h0 b = some (.cells cs.toArray T (0, 0)) := hA
  refine ⟨un R h0, Sub.un_left _ _, ?_, Sub.un_right hd _ _ hb, h1⟩
  rcases hd b with x | x
  · exact x
  · rw [x] at hb; cases hb
def SetAt (Bs : List Nat) (b : Nat) (h : HP) : Prop := ∃ m : List (Nat × Value), (∀ p ∈ m, p.1 ∈ Bs) ∧ (m.map (·.1)).Nodup ∧ m ≠ [] ∧ mp pn b m h
def setsP (Bs S : List Nat) : SP := fun h => ∀ b ∈ S, SetAt Bs b h
theorem setsP.mono {Bs Bs' S S' : List Nat} (hB : ∀ p ∈ Bs, p ∈ Bs') (hS : ∀ b ∈ S', b ∈ S) {h : HP} (x : setsP Bs S h) : setsP Bs' S' h := fun b hb => by
  obtain ⟨m, h1, h2, h3, h4⟩ := x b (hS b hb)
  exact ⟨m, fun p hp => hB _ (h1 p hp), h2, h3, h4⟩
theorem Holds.sets_mono {w : World} {l : List SP} {Bs Bs' S S' : List Nat} (h : Holds w (setsP Bs S :: l)) (hB : ∀ p ∈ Bs, p ∈ Bs') (hS : ∀ b ∈ S', b ∈ S) : Holds w (setsP Bs' S' :: l) := by
  obtain ⟨h1, k, s, t, d, a, r⟩ := h
  exact ⟨h1, k, s, t, d, a.mono hB hS, r⟩
theorem Sat.sets_mono {g : HP} {l : List SP} {Bs Bs' S S' : List Nat} (h : Sat (setsP Bs S :: l) g) (hB : ∀ p ∈ Bs, p ∈ Bs') (hS : ∀ b ∈ S', b ∈ S) : Sat (setsP Bs' S' :: l) g := by
  obtain ⟨h1, k, s, t, d, a, r⟩ := h
  exact ⟨h1, k, s, t, d, a.mono hB hS, r⟩
theorem Holds.sets_nil {w : World} {l : List SP} (h : Holds w l) : Holds w (setsP [] [] :: l) := Sat.add_free (A := setsP [] []) (fun h b hb => absurd hb (by simp)) h
theorem Holds.set_out {w : World} {l : List SP} {Bs S : List Nat} (h : Holds w (setsP Bs S :: l)) {b : Nat} (hb : b ∈ S) : ∃ m : List (Nat × Value), ((∀ p ∈ m, p.1 ∈ Bs) ∧ (m.map (·.1)).Nodup ∧ m ≠ []) ∧ Holds w (mp pn b m :: setsP Bs (S.filter fun c => decide (c ≠ b)) :: l) := by
  obtain ⟨h1, k, s, t, dd, a, r⟩ := h
  obtain ⟨m, f1, f2, f3, es, clock, hb', he, hbo⟩ := a b hb
  refine ⟨m, ⟨f1, f2, f3⟩, (fun c => if c = b then h1 c else none), un (fun c => if c = b then none else h1 c) k, ?_, ?_, ?_, ⟨es, clock, by simp [hb'], he, hbo⟩, (fun c => if c = b then none else h1 c), k, Sub.un_left _ _, ?_, ?_, ?_, r⟩
  · intro c o ho
    have ho : (if c = b then h1 c else none) = some o := ho
    by_cases hc : c = b
    · rw [if_pos hc] at ho; exact s _ _ ho
    · rw [if_neg hc] at ho; cases ho
  · refine Sub.un_lub (fun c o ho => ?_) t
    by_cases hc : c = b
    · rw [if_pos hc] at ho; cases ho
    · rw [if_neg hc] at ho; exact s _ _ ho
  · intro c
    by_cases hc : c = b
    · right
      subst hc
      have : k c = none := by
        rcases dd c with x | x
        · rw [x] at hb'; cases hb'
        · exact x
      simp [un, this]
    · left; simp [hc]
  · refine Sub.un_right fun c => ?_
    by_cases hc : c = b
    · left; simp [hc]
    · rcases dd c with x | x
      · left; simp [hc, x]
      · exact .inr x
  · intro c
    by_cases hc : c = b
    · left; simp [hc]
    · rcases dd c with x | x
      · left; simp [hc, x]
      · exact .inr x
  · intro c hc
    obtain ⟨hc1, hc2⟩ := List.mem_filter.1 hc
    have hc2 : c ≠ b := of_decide_eq_true hc2
    obtain ⟨m', g1, g2, g3, es', cl', e1, e2, e3⟩ := a c hc1
    exact ⟨m', g1, g2, g3, es', cl', by simp [hc2, e1], e2, e3⟩
theorem Holds.set_in {w : World} {l : List SP} {Bs S : List Nat} {b : Nat} {m : List (Nat × Value)} (h : Holds w (mp pn b m :: setsP Bs S :: l)) (h1 : ∀ p ∈ m, p.1 ∈ Bs) (h2 : (m.map (·.1)).Nodup) (h3 : m ≠ []) : Holds w (setsP Bs (b :: S) :: l) := by
  obtain ⟨g1, k1, s1, t1, d1, ⟨es, clock, e1, e2, e3⟩, g2, k2, s2, t2, d2, a2, r⟩ := h
  refine ⟨un g1 g2, k2, Sub.un_lub s1 (s2.trans' t1), t2.trans' t1, Dis.un_left (d1.sub_right t2) d2, ?_, r⟩
  intro c hc
  rcases List.mem_cons.1 hc with rfl | hc
  · exact ⟨m, h1, h2, h3, es, clock, Sub.un_left _ _ _ _ e1, e2, e3⟩
  · obtain ⟨m', f1, f2, f3, es', cl', q1, q2, q3⟩ := a2 c hc
    exact ⟨m', f1, f2, f3, es', cl', Sub.un_right (d1.sub_right s2) _ _ q1, q2, q3⟩

end Go.Proofs.YtlnihndjepjagaaGreat
set_option linter.unusedVariables false
set_option linter.unusedSimpArgs false
namespace Go.Proofs.YtlnihndjepjagaaGreat
open Go Go.RowKit Gw Tryz
open Go.Value renaming int → vI, bool → vB, slice → vS, pointer → vP, agg → vA, tuple → vT

/-! ### Texts in order; the empty one stands behind all -/
theorem cb_refl : ∀ a : List UInt8, Lib.compareBytes a a = 0
  | [] => rfl
  | a :: xs => by simp [Lib.compareBytes, cb_refl xs]
theorem cb_flip : ∀ a b : List UInt8, Lib.compareBytes a b = - Lib.compareBytes b a
  | [], [] => rfl
  | [], _ :: _ => rfl
  | _ :: _, [] => rfl
  | a :: xs, b :: ys => by
    have ih := cb_flip xs ys
    simp only [Lib.compareBytes, UInt8.lt_iff_toNat_lt]
    split <;> split <;> first | omega | rfl
theorem cb_anti : ∀ {a b : List UInt8}, Lib.compareBytes a b = 0 → a = b
  | [], [], _ => rfl
  | [], _ :: _, h => by cases h
  | _ :: _, [], h => by cases h
  | a :: xs, b :: ys, h => by
    simp only [Lib.compareBytes, UInt8.lt_iff_toNat_lt] at h
    split at h
    · cases h
    · split at h
      · cases h
      · rw [cb_anti h, show a = b from UInt8.toNat_inj.1 (by omega)]
theorem cb_trans : ∀ {a b c : List UInt8}, Lib.compareBytes a b ≤ 0 → Lib.compareBytes b c ≤ 0 → Lib.compareBytes a c ≤ 0
  | [], _, [], _, _ => by decide
  | [], _, _ :: _, _, _ => by show (-1 : Int) ≤ 0; decide
  | _ :: _, [], _, h, _ => absurd (show (1 : Int) ≤ 0 from h) (by decide)
  | _ :: _, _ :: _, [], _, h => absurd (show (1 : Int) ≤ 0 from h) (by decide)
  | a :: xs, b :: ys, c :: zs, h1, h2 => by
    simp only [Lib.compareBytes, UInt8.lt_iff_toNat_lt] at h1 h2 ⊢
    by_cases h3 : a.toNat < c.toNat
    · rw [if_pos h3]; decide
    · rw [if_neg h3]
      split at h1
      · split at h2
        · omega
        · split at h2
          · exact absurd h2 (by decide)
          · omega
      · split at h1
        · exact absurd h1 (by decide)
        · split at h2
          · omega
          · split at h2
            · exact absurd h2 (by decide)
            · rw [if_neg (by omega)]; exact cb_trans h1 h2
def acm : List UInt8 → List UInt8 → Int
  | [], [] => 0
  | [], _ :: _ => 1
  | _ :: _, [] => -1
  | a :: xs, b :: ys => Lib.compareBytes (a :: xs) (b :: ys)
theorem acm_refl : ∀ a, acm a a = 0
  | [] => rfl
  | a :: xs => cb_refl (a :: xs)
theorem acm_flip : ∀ a b, acm a b = - acm b a
  | [], [] => rfl
  | [], _ :: _ => rfl
  | _ :: _, [] => rfl
  | a :: xs, b :: ys => cb_flip (a :: xs) (b :: ys)
theorem acm_anti : ∀ {a b}, acm a b = 0 → a = b
  | [], [], _ => rfl
  | [], _ :: _, h => by cases h
  | _ :: _, [], h => by cases h
  | _ :: _, _ :: _, h => cb_anti h
theorem acm_trans : ∀ {a b c}, acm a b ≤ 0 → acm b c ≤ 0 → acm a c ≤ 0
  | [], [], _, _, h => h
  | [], _ :: _, _, h, _ => absurd (show (1 : Int) ≤ 0 from h) (by decide)
  | _ :: _, [], [], h, _ => h
  | _ :: _, [], _ :: _, _, h => absurd (show (1 : Int) ≤ 0 from h) (by decide)
  | _ :: _, _ :: _, [], _, _ => by show (-1 : Int) ≤ 0; decide
  | _ :: _, _ :: _, _ :: _, h1, h2 => cb_trans h1 h2
theorem acm_ne {a b : List UInt8} (ha : a ≠ []) (hb : b ≠ []) : acm a b = Lib.compareBytes a b := by
  cases a with
  | nil => exact absurd rfl ha
  | cons _ _ => cases b with
    | nil => exact absurd rfl hb
    | cons _ _ => rfl
theorem acm_l {b : List UInt8} (hb : b ≠ []) : acm [] b = 1 := by
  cases b with
  | nil => exact absurd rfl hb
  | cons _ _ => rfl
theorem acm_r {b : List UInt8} (hb : b ≠ []) : acm b [] = -1 := by
  cases b with
  | nil => exact absurd rfl hb
  | cons _ _ => rfl
/-! ### The model's order of texts -/
theorem empty_iff {u : ByteArray} : (u.toList == (ByteArray.mk #[]).toList) = true ↔ u.size = 0 := by
  rw [beq_iff_eq, toList_data, toList_data]
  constructor
  · intro h
    have : u.data.toList.length = 0 := by rw [h]; rfl
    simpa using this
  · intro h
    exact List.eq_nil_of_length_eq_zero (by simpa using h)
theorem bl_lt : ∀ {a b : List UInt8}, Op.bytesLess a b = true ↔ Lib.compareBytes a b < 0
  | [], [] => by simp [Op.bytesLess, Lib.compareBytes]
  | [], _ :: _ => by simp [Op.bytesLess, Lib.compareBytes]
  | _ :: _, [] => by simp [Op.bytesLess, Lib.compareBytes]
  | a :: xs, b :: ys => by
    have ih := @bl_lt xs ys
    simp only [Op.bytesLess, Lib.compareBytes, Bool.or_eq_true, Bool.and_eq_true, decide_eq_true_eq, beq_iff_eq, UInt8.lt_iff_toNat_lt]
    have e : a = b ↔ a.toNat = b.toNat := UInt8.toNat_inj.symm
    by_cases h1 : a.toNat < b.toNat
    · simp [h1]
    · rw [if_neg h1]
      by_cases h2 : b.toNat < a.toNat
      · rw [if_pos h2]
        have : a ≠ b := fun h => by have := e.1 h; omega
        simp [h1, this]
      · rw [if_neg h2]
        have : a = b := e.2 (by omega)
        simp [this, ih]


theorem cb_val (a b : ByteArray) : Lib.compareBytes a.data.toList b.data.toList = if Op.bytesLess a.toList b.toList = true then -1 else if (Op.bytesLess a.toList b.toList || a.toList == b.toList) = true then 0 else 1 := by
  have h1 := @bl_lt a.data.toList b.data.toList
  have h2 := @bl_lt b.data.toList a.data.toList
  have h3 := cb_flip a.data.toList b.data.toList
  have hr : ∀ x y : List UInt8, Lib.compareBytes x y = -1 ∨ Lib.compareBytes x y = 0 ∨ Lib.compareBytes x y = 1 := by
    intro x
    induction x with
    | nil => intro y; cases y <;> simp [Lib.compareBytes]
    | cons c x ih =>
      intro y
      cases y with
      | nil => simp [Lib.compareBytes]
      | cons d y =>
        simp only [Lib.compareBytes]
        split
        · simp
        · split
          · simp
          · exact ih y
  rw [toList_data a, toList_data b]
  have hr' := hr a.data.toList b.data.toList
  by_cases hl : Op.bytesLess a.data.toList b.data.toList = true
  · rw [if_pos hl]; have := h1.1 hl; omega
  · rw [if_neg hl]
    have hl' : ¬ Lib.compareBytes a.data.toList b.data.toList < 0 := fun h => hl (h1.2 h)
    by_cases he : a.data.toList = b.data.toList
    · rw [if_pos (by simp [he]), he, cb_refl]
    · have : ¬ (Op.bytesLess a.data.toList b.data.toList || a.data.toList == b.data.toList) = true := by
        rw [Bool.or_eq_true, beq_iff_eq]
        exact fun h => h.elim hl he
      rw [if_neg this]
      have : Lib.compareBytes a.data.toList b.data.toList ≠ 0 := fun h => he (cb_anti h)
      omega
theorem cb_c1 {a b : ByteArray} (h : Op.bytesLess a.toList b.toList = true) : Lib.compareBytes a.data.toList b.data.toList = -1 := by rw [cb_val, if_pos h]
theorem cb_c2 {a b : ByteArray} (h : Op.bytesLess a.toList b.toList = false) (h2 : (!(Op.bytesLess a.toList b.toList || a.toList == b.toList)) = true) : Lib.compareBytes a.data.toList b.data.toList = 1 := by
  rw [cb_val, if_neg (by rw [h]; decide), if_neg (by rw [Bool.not_eq_true'] at h2; rw [h2]; decide)]
theorem cb_c3 {a b : ByteArray} (h : Op.bytesLess a.toList b.toList = false) (h2 : (!(Op.bytesLess a.toList b.toList || a.toList == b.toList)) = false) : Lib.compareBytes a.data.toList b.data.toList = 0 := by
  rw [cb_val, if_neg (by rw [h]; decide), if_pos (by rw [Bool.not_eq_false'] at h2; exact h2)]
theorem nil_size {a : ByteArray} : a.data.toList = [] ↔ a.size = 0 := by
  constructor
  · intro h
    have : a.data.toList.length = 0 := by rw [h]; rfl
    simpa using this
  · intro h
    exact List.eq_nil_of_length_eq_zero (by simpa using h)
theorem acm_val (a b : ByteArray) : acm a.data.toList b.data.toList = if a.size = 0 then (if b.size = 0 then 0 else 1) else if b.size = 0 then -1 else Lib.compareBytes a.data.toList b.data.toList := by
  by_cases h1 : a.size = 0
  · rw [if_pos h1, nil_size.2 h1]
    by_cases h2 : b.size = 0
    · rw [if_pos h2, nil_size.2 h2]; rfl
    · rw [if_neg h2, acm_l fun h => h2 (nil_size.1 h)]
  · rw [if_neg h1]
    by_cases h2 : b.size = 0
    · rw [if_pos h2, nil_size.2 h2, acm_r fun h => h1 (nil_size.1 h)]
    · rw [if_neg h2, acm_ne (fun h => h1 (nil_size.1 h)) (fun h => h2 (nil_size.1 h))]


set_option maxHeartbeats 1600000 in
theorem grCmp (R : HP) (s t : ByteArray) :
    Tri Tryz.prog 179 #[(Value.string s), (Value.iface 222 (Value.string t))] R [] (fun v__ post__ => v__ = (vI .i64 (acm s.data.toList t.data.toList)) ∧ post__ = []) := by
 refine Tri.into (n := 23) (al := [(Value.string s), (Value.iface 222 (Value.string t))]) func179 rfl ntmps179 rfl rfl fun w F H => ?_
 refine cR fun _ hK1_ => ?_
 refine sv (v := (vI .i64 0)) (x_assign rfl) ?_
 refine wn (hK1_ _ _ ?_)
 refine cR fun _ hK2_ => ?_
 refine sm (Value.iface 222 (Value.string t)) ?_
 refine sv (v := (Value.string t)) (by kernel_rfl) ?_
 refine sv (v := (Value.string t)) (x_assign rfl) ?_
 refine wn (hK2_ _ _ ?_)
 refine C_seq (fun _ hK3_ => ?_)
 refine cR fun _ hK4_ => ?_
 refine sm (Value.string s) ?_
 refine sv (v := (vI .i64 (s.size : Int))) (x_lenT rfl underlying222) ?_
 refine sv (v := (vB (decide ((s.size : Int) = 0)))) (x_bin rfl rfl rfl) ?_
 refine wn (hK4_ _ _ ?_)
 refine C_cond (b := decide ((s.size : Int) = 0)) rfl (fun c5_t => ?_) (fun c5_f => ?_)
 ·have c5_tp : (s.size : Int) = 0 := of_decide_eq_true c5_t
  refine C_seq (fun _ hK6_ => ?_)
  refine cR fun _ hK7_ => ?_
  refine sm (Value.string t) ?_
  refine sv (v := (vI .i64 (t.size : Int))) (x_lenT rfl underlying222) ?_
  refine sv (v := (vB (decide ((t.size : Int) = 0)))) (x_bin rfl rfl rfl) ?_
  refine wn (hK7_ _ _ ?_)
  refine C_cond (b := decide ((t.size : Int) = 0)) rfl (fun c8_t => ?_) (fun c8_f => ?_)
  ·have c8_tp : (t.size : Int) = 0 := of_decide_eq_true c8_t
   refine cR fun _ hK9_ => ?_
   refine sv (v := (vI .i64 0)) (x_assign rfl) ?_
   refine wn (hK9_ _ _ ?_)
   refine C_ret (X_thenR (X_thenR ?_))
   refine R_any (v := (vI .i64 0)) (run_results1 rfl rfl) ?_
   exact ⟨_, _, rfl, ⟨(congrArg (vI .i64) ((by rw [acm_val]; first | (rw [if_pos (by omega), if_pos (by omega)]; done) | (rw [if_pos (by omega), if_neg (by omega)]; done) | (rw [if_neg (by omega), if_pos (by omega)]; done)) : 0 = acm s.data.toList t.data.toList)), rfl⟩, (Same.refl w), H⟩
  ·have c8_fp : ¬ ((t.size : Int) = 0) := of_decide_eq_false c8_f
   refine C_skip (X_then (hK6_ _ _ ?_))
   refine cR fun _ hK10_ => ?_
   refine sv (v := (vI .i64 1)) (x_assign rfl) ?_
   refine wn (hK10_ _ _ ?_)
   refine C_ret (X_thenR ?_)
   refine R_any (v := (vI .i64 1)) (run_results1 rfl rfl) ?_
   exact ⟨_, _, rfl, ⟨(congrArg (vI .i64) ((by rw [acm_val]; first | (rw [if_pos (by omega), if_pos (by omega)]; done) | (rw [if_pos (by omega), if_neg (by omega)]; done) | (rw [if_neg (by omega), if_pos (by omega)]; done)) : 1 = acm s.data.toList t.data.toList)), rfl⟩, (Same.refl w), H⟩
 ·have c5_fp : ¬ ((s.size : Int) = 0) := of_decide_eq_false c5_f
  refine C_skip (X_then (hK3_ _ _ ?_))
  refine C_seq (fun _ hK11_ => ?_)
  refine cR fun _ hK12_ => ?_
  refine sm (Value.string t) ?_
  refine sv (v := (vI .i64 (t.size : Int))) (x_lenT rfl underlying222) ?_
  refine sv (v := (vB (decide ((t.size : Int) = 0)))) (x_bin rfl rfl rfl) ?_
  refine wn (hK12_ _ _ ?_)
  refine C_cond (b := decide ((t.size : Int) = 0)) rfl (fun c13_t => ?_) (fun c13_f => ?_)
  ·have c13_tp : (t.size : Int) = 0 := of_decide_eq_true c13_t
   refine cR fun _ hK14_ => ?_
   refine sv (v := (vI .i64 (-1))) (x_assign rfl) ?_
   refine wn (hK14_ _ _ ?_)
   refine C_ret (X_thenR ?_)
   refine R_any (v := (vI .i64 (-1))) (run_results1 rfl rfl) ?_
   exact ⟨_, _, rfl, ⟨(congrArg (vI .i64) ((by rw [acm_val]; first | (rw [if_pos (by omega), if_pos (by omega)]; done) | (rw [if_pos (by omega), if_neg (by omega)]; done) | (rw [if_neg (by omega), if_pos (by omega)]; done)) : -1 = acm s.data.toList t.data.toList)), rfl⟩, (Same.refl w), H⟩
  ·have c13_fp : ¬ ((t.size : Int) = 0) := of_decide_eq_false c13_f
   refine C_skip (X_then (hK11_ _ _ ?_))
   refine C_seq (fun _ hK15_ => ?_)
   refine cR fun _ hK16_ => ?_
   refine sm (Value.string s) ?_
   refine sm (Value.string t) ?_
   refine sv (v := (vB (Op.bytesLess s.toList t.toList))) (x_str rfl rfl rfl (by decide)) ?_
   refine wn (hK16_ _ _ ?_)
   refine C_cond (b := Op.bytesLess s.toList t.toList) rfl (fun c17_t => ?_) (fun c17_f => ?_)
   ·skip
    refine cR fun _ hK18_ => ?_
    refine sv (v := (vI .i64 (-1))) (x_assign rfl) ?_
    refine wn (hK18_ _ _ ?_)
    refine C_ret (X_thenR ?_)
    refine R_any (v := (vI .i64 (-1))) (run_results1 rfl rfl) ?_
    exact ⟨_, _, rfl, ⟨(congrArg (vI .i64) ((by rw [acm_val]; rw [if_neg (by omega), if_neg (by omega)]; exact (cb_c1 c17_t).symm) : -1 = acm s.data.toList t.data.toList)), rfl⟩, (Same.refl w), H⟩
   ·skip
    refine C_skip (X_then (hK15_ _ _ ?_))
    refine C_seq (fun _ hK19_ => ?_)
    refine cR fun _ hK20_ => ?_
    refine sm (Value.string s) ?_
    refine sm (Value.string t) ?_
    refine sv (v := (vB (!(Op.bytesLess s.toList t.toList || s.toList == t.toList)))) (x_str rfl rfl rfl (by decide)) ?_
    refine wn (hK20_ _ _ ?_)
    refine C_cond (b := !(Op.bytesLess s.toList t.toList || s.toList == t.toList)) rfl (fun c21_t => ?_) (fun c21_f => ?_)
    ·skip
     refine cR fun _ hK22_ => ?_
     refine sv (v := (vI .i64 1)) (x_assign rfl) ?_
     refine wn (hK22_ _ _ ?_)
     refine C_ret (X_thenR ?_)
     refine R_any (v := (vI .i64 1)) (run_results1 rfl rfl) ?_
     exact ⟨_, _, rfl, ⟨(congrArg (vI .i64) ((by rw [acm_val]; rw [if_neg (by omega), if_neg (by omega)]; exact (cb_c2 c17_f c21_t).symm) : 1 = acm s.data.toList t.data.toList)), rfl⟩, (Same.refl w), H⟩
    ·skip
     refine C_skip (X_then (hK19_ _ _ ?_))
     refine cR fun _ hK23_ => ?_
     refine sv (v := (vI .i64 0)) (x_assign rfl) ?_
     refine wn (hK23_ _ _ ?_)
     refine C_ret ?_
     refine R_any (v := (vI .i64 0)) (run_results1 rfl rfl) ?_
     exact ⟨_, _, rfl, ⟨(congrArg (vI .i64) ((by rw [acm_val]; rw [if_neg (by omega), if_neg (by omega)]; exact (cb_c3 c17_f c21_f).symm) : 0 = acm s.data.toList t.data.toList)), rfl⟩, (Same.refl w), H⟩

def AVal (_ : HP) (v : Value) (k : List UInt8) : Prop := ∃ s : ByteArray, v = .iface 222 (.string s) ∧ k = s.data.toList
def AO : KO (List UInt8) where
  cm := acm
  Val := AVal
  mono := fun _ h => h
  one := fun ⟨s, h1, _⟩ => by subst h1; rfl
  cmp := fun {R v w a b} ⟨s, e1, k1⟩ ⟨t, e2, k2⟩ => ⟨222, .string s, 179, e1, fun W => by kernel_rfl, cb179, by
    subst e2; subst k1; subst k2
    exact (grCmp R s t).mono fun v l h => h, fun W => by kernel_rfl⟩
  refl := acm_refl
  anti := acm_anti
  flip := fun {a b} => by have := acm_flip a b; omega
  trans := acm_trans
theorem av {R : HP} (s : ByteArray) : AO.Val R (Value.iface 222 (.string s)) s.data.toList := ⟨s, rfl, rfl⟩
end Go.Proofs.YtlnihndjepjagaaGreat
set_option linter.unusedVariables false
set_option linter.unusedSimpArgs false
namespace Go.Proofs.YtlnihndjepjagaaGreat
open Go Go.RowKit Gw Tryz
open Go.Value renaming int → vI, bool → vB, slice → vS, pointer → vP, agg → vA, tuple → vT

structure GW where
  iD : Int
  key : ByteArray
  end_ : ByteArray
  hasEnd : Bool
  minRev : Int
def GW.cells (x : GW) : List Value := [(vI .i64 x.iD), (Value.string x.key), (Value.string x.end_), (vB x.hasEnd), (vI .i64 x.minRev)]
theorem GW.len (x : GW) : x.cells.length = 5 := rfl

/-! ### Watchers in what is only read; sets by keys -/
def EndAt (R : HP) (ev : Value) (x : GW) : Prop := (x.hasEnd = false ∧ ev = .slice none 0 0) ∨ (x.hasEnd = true ∧ ∃ (ea : Addr) (em ec : Nat), ev = .slice (some ea) em ec ∧ RS R 1 ev (List.length (ints x.end_)) (bytesV (ints x.end_)))
def wcells (kv ev ch : Value) (x : GW) : List Value := [kv, ev, .bool false, .bool false, .bool false, .int .i64 0, .int .i64 x.minRev, .int .i64 x.iD, .slice none 0 0, ch]
def WNew (R : HP) (p : Nat) (x : GW) : Prop := ∃ kv ev ch, R p = some (.cells (wcells kv ev ch x).toArray 142 (0, 0)) ∧ RS R 1 kv (List.length (ints x.key)) (bytesV (ints x.key)) ∧ EndAt R ev x
theorem EndAt.mono {R R' : HP} (s : Sub R R') {ev : Value} {x : GW} (h : EndAt R ev x) : EndAt R' ev x := by
  rcases h with h | ⟨h1, ea, em, ec, h2, h3⟩
  · exact .inl h
  · exact .inr ⟨h1, ea, em, ec, h2, h3.mono s⟩
theorem WNew.mono {R R' : HP} (s : Sub R R') {p : Nat} {x : GW} (h : WNew R p x) : WNew R' p x := by
  obtain ⟨kv, ev, ch, h1, h2, h3⟩ := h
  exact ⟨kv, ev, ch, s _ _ h1, h2.mono s, h3.mono s⟩
theorem WNew.alv {R : HP} {p : Nat} {x : GW} (h : WNew R p x) : Alv R p := by
  obtain ⟨kv, ev, ch, h1, _, _⟩ := h; exact ⟨_, _, h1⟩
theorem RC.of_cells {R : HP} {b : Nat} {T : TypeId} {xs : List Value} {fr : Nat × Nat} (h : R b = some (.cells xs.toArray T fr)) : RC R b 0 xs := fun j u hj => ⟨_, _, _, h, by rw [Nat.zero_add]; simpa using hj⟩
theorem strI (s : ByteArray) : strN (ints s) = s := by
  apply ByteArray.ext
  apply Array.toList_inj.1
  rw [strN_data]
  unfold ints
  rw [List.map_map]
  have : ((fun n : Int => UInt8.ofNat n.toNat) ∘ fun b : UInt8 => (b.toNat : Int)) = id := by
    funext b; simp
  rw [this, List.map_id]
structure KMs (KM : List (ByteArray × Value)) (S : List Nat) : Prop where
  nd : (KM.map (·.1)).Nodup
  v : ∀ x ∈ KM, ∃ b ∈ S, x.2 = .map (some b)
theorem KMs.nil : KMs [] [] := ⟨by simp, fun x hx => by cases hx⟩
theorem KMs.more {KM : List (ByteArray × Value)} {S S' : List Nat} (h : KMs KM S) (hs : ∀ b ∈ S, b ∈ S') : KMs KM S' := ⟨h.nd, fun x hx => by obtain ⟨b, h1, h2⟩ := h.v x hx; exact ⟨b, hs b h1, h2⟩⟩
theorem mget_or (KM : List (ByteArray × Value)) (k : ByteArray) : ((∀ x ∈ KM, x.1 ≠ k) ∧ mget KM k = none) ∨ (∃ x ∈ KM, x.1 = k ∧ mget KM k = some x.2) := by
  unfold mget
  cases hf : KM.find? (fun p => decide (p.1 = k)) with
  | none =>
    rw [List.find?_eq_none] at hf
    exact .inl ⟨fun x hx e => hf x hx (decide_eq_true e), rfl⟩
  | some x =>
    exact .inr ⟨x, List.mem_of_find?_eq_some hf, of_decide_eq_true (List.find?_some (p := fun p : ByteArray × Value => decide (p.1 = k)) hf), rfl⟩
theorem mset_new {KM : List (ByteArray × Value)} {k : ByteArray} (h : ∀ x ∈ KM, x.1 ≠ k) (v : Value) : mset KM k v = KM ++ [(k, v)] := by
  unfold mset
  rw [if_neg]
  rw [List.any_eq_true]
  rintro ⟨x, hx, he⟩
  exact h x hx (of_decide_eq_true he)
theorem KMs.add {KM : List (ByteArray × Value)} {S : List Nat} {k : ByteArray} {b : Nat} (h : KMs KM S) (hk : ∀ x ∈ KM, x.1 ≠ k) : KMs (mset KM k (.map (some b))) (b :: S) := by
  rw [mset_new hk]
  refine ⟨?_, fun x hx => ?_⟩
  · rw [List.map_append, List.nodup_append]
    refine ⟨h.nd, by simp, fun a ha c hc => ?_⟩
    obtain ⟨x, hx, rfl⟩ := List.mem_map.1 ha
    have : c = k := by simpa using hc
    rw [this]
    exact hk x hx
  · rcases List.mem_append.1 hx with hx | hx
    · obtain ⟨c, h1, h2⟩ := h.v x hx; exact ⟨c, List.mem_cons_of_mem _ h1, h2⟩
    · rw [List.mem_singleton.1 hx]; exact ⟨b, List.mem_cons_self .., rfl⟩
theorem keys_new {KM : List (ByteArray × Value)} {k : ByteArray} (hk : ∀ x ∈ KM, x.1 ≠ k) (v : Value) (k' : ByteArray) : (∃ x ∈ mset KM k v, x.1 = k') ↔ (∃ x ∈ KM, x.1 = k') ∨ k' = k := by
  rw [mset_new hk]
  constructor
  · rintro ⟨x, hx, rfl⟩
    rcases List.mem_append.1 hx with hx | hx
    · exact .inl ⟨x, hx, rfl⟩
    · rw [List.mem_singleton.1 hx]; exact .inr rfl
  · rintro (⟨x, hx, rfl⟩ | rfl)
    · exact ⟨x, List.mem_append.2 (.inl hx), rfl⟩
    · exact ⟨_, List.mem_append.2 (.inr (List.mem_singleton.2 rfl)), rfl⟩
theorem keys_old {KM : List (ByteArray × Value)} {k : ByteArray} {x : ByteArray × Value} (hx : x ∈ KM) (hk : x.1 = k) (k' : ByteArray) : (∃ x ∈ KM, x.1 = k') ↔ (∃ x ∈ KM, x.1 = k') ∨ k' = k := by
  constructor
  · exact .inl
  · rintro (h | rfl)
    · exact h
    · exact ⟨x, hx, hk⟩
theorem Holds.set_put {w : World} {l : List SP} {Bs S : List Nat} {a b : Nat} {m : List (Nat × Value)} {v : Value} (h : Holds w (mp pn b (m ++ [(a, v)]) :: setsP Bs (S.filter fun c => decide (c ≠ b)) :: l)) (hm : (∀ p ∈ m, p.1 ∈ Bs) ∧ (m.map (·.1)).Nodup ∧ m ≠ []) (hf : a ∉ Bs) :
    Holds w (setsP (Bs ++ [a]) S :: l) := by
  have h1 : Holds w (mp pn b (m ++ [(a, v)]) :: setsP (Bs ++ [a]) (S.filter fun c => decide (c ≠ b)) :: l) := Sat.cons_map (fun _ y => Sat.sets_mono y (fun p hp => List.mem_append.2 (.inl hp)) (fun _ hb => hb)) h
  refine Holds.sets_mono (Holds.set_in h1 (fun p hp => ?_) ?_ (by simp)) (fun p hp => hp) (fun c hc => ?_)
  · rcases List.mem_append.1 hp with hp | hp
    · exact List.mem_append.2 (.inl (hm.1 p hp))
    · rw [List.mem_singleton.1 hp]; simp
  · rw [List.map_append, List.nodup_append]
    refine ⟨hm.2.1, by simp, fun q hq c hc => ?_⟩
    obtain ⟨x, hx, rfl⟩ := List.mem_map.1 hq
    have : c = a := by simpa using hc
    rw [this]
    exact fun e => hf (e ▸ hm.1 x hx)
  · by_cases h : c = b
    · rw [h]; exact List.mem_cons_self ..
    · exact List.mem_cons_of_mem _ (List.mem_filter.2 ⟨hc, decide_eq_true h⟩)
theorem Holds.set_new {w : World} {l : List SP} {Bs S : List Nat} {a b : Nat} {v : Value} (h : Holds w (mp pn b ([] ++ [(a, v)]) :: setsP Bs S :: l)) : Holds w (setsP (Bs ++ [a]) (b :: S) :: l) := by
  have h1 : Holds w (mp pn b [(a, v)] :: setsP (Bs ++ [a]) S :: l) := Sat.cons_map (fun _ y => Sat.sets_mono y (fun p hp => List.mem_append.2 (.inl hp)) (fun _ hb => hb)) h
  exact Holds.set_in h1 (fun p hp => by rw [List.mem_singleton.1 hp]; simp) (by simp) (by simp)
end Go.Proofs.YtlnihndjepjagaaGreat
set_option linter.unusedVariables false
set_option linter.unusedSimpArgs false
namespace Go.Proofs.YtlnihndjepjagaaGreat
open Go Go.RowKit Gw Tryz
open Go.Value renaming int → vI, bool → vB, slice → vS, pointer → vP, agg → vA, tuple → vT

set_option maxHeartbeats 1600000 in
theorem gsAdd (R : HP) (b a : Nat) (m : List (Nat × Value)) (ha : Alv R a) (hm : ∀ p ∈ m, Alv R p.1) (hn : ∀ p ∈ m, p.1 ≠ a) :
    Tri Tryz.prog 81 #[(Value.map (some b)), (vQ a)] R [mp pn b m] (fun v__ post__ => v__ = (vT #[]) ∧ post__ = [mp pn b (m ++ [(a, vA #[])])]) := by
 refine Tri.into (n := 17) (al := [(Value.map (some b)), (vQ a)]) func81 rfl ntmps81 rfl rfl fun w F H => ?_
 refine C_seq (fun _ hK1_ => ?_)
 refine cR fun _ hK2_ => ?_
 refine sm (Value.map (some b)) ?_
 refine sm (vQ a) ?_
 refine sv (v := (vT #[(vA #[]), (vB false)])) (x_lookupPN (b := b) (a := a) (m := m) rfl rfl underlying136 z142 (by decide) underlying91 z190 (Holds.mprd H 1 rfl) (Alv.blk H 0 rfl ha) (fun p hp => Alv.blk H 0 rfl (hm p hp)) hn) ?_
 refine sm (vT #[(vA #[]), (vB false)]) ?_
 refine sv (v := (vA #[])) (by kernel_rfl) ?_
 refine sv (v := (vB false)) (by kernel_rfl) ?_
 refine S_list (T_alloc z190 H ?_)
 intro b3_ w4_ S6_ H5_
 have S7_ := Same.trans (Same.refl w) S6_
 refine S_list0 (T_storeN (vs := []) rfl rfl z190 rfl (by simp [Value.oneCell']) H5_ 0 rfl (Nat.le_of_ble_eq_true (by rfl)) ?_)
 intro w8_ S10_ H9_
 have S11_ := Same.trans S7_ S10_
 refine sv (v := (vB false)) (x_assign rfl) ?_
 refine wn (hK2_ _ _ ?_)
 refine cR fun _ hK12_ => ?_
 refine sm (vB false) ?_
 refine wn (hK12_ _ _ ?_)
 refine C_condF rfl ?_
 refine C_skip (X_then (hK1_ _ _ ?_))
 refine C_reg ?_
 refine sm (Value.map (some b)) ?_
 refine sm (vQ a) ?_
 refine sv (v := (vA #[])) (by kernel_rfl) ?_
 refine S_list0 (T_mapUpdatePN (b := b) (a := a) (m := m) (v := (vA #[])) rfl rfl rfl underlying136 z142 (by decide) underlying91 H9_ 2 rfl (Alv.blk H9_ 1 rfl ha) (fun p hp => Alv.blk H9_ 1 rfl (hm p hp)) hn ?_)
 intro w13_ S15_ H14_
 have S16_ := Same.trans S11_ S15_
 refine wpList_nil ?_
 refine R_0 rfl ?_
 have eH17_ : mp pn b (m ++ [(a, (vA #[]))]) = mp pn b (m ++ [(a, vA #[])]) := by first | rfl | (congr 1 <;> first | rfl | omega | (simp; done) | (simp; omega))
 have H17_ : Holds w13_ (cl b3_ 190 [] :: ro R :: mp pn b (m ++ [(a, vA #[])]) :: F) := cast1 (P := fun c__ => Holds w13_ (cl b3_ 190 [] :: ro R :: c__ :: F)) eH17_ H14_
 have H18_ := Holds.pkF H17_ [1, 1] 1
 exact ⟨_, _, rfl, ⟨rfl, rfl⟩, S16_, H18_⟩

set_option maxHeartbeats 8000000 in
theorem gkAdd (R : HP) (kb a : Nat) (KM : List (ByteArray × Value)) (Bs S : List Nat) (x : GW) (hw : WNew R a x) (hB : ∀ p ∈ Bs, Alv R p) (hf : a ∉ Bs) (hKM : KMs KM S) :
    Tri Tryz.prog 82 #[(Value.map (some kb)), (vQ a)] R [mp Value.string kb KM, setsP Bs S] (fun v__ post__ => ∃ (KM' : List (ByteArray × Value)) (S' : List Nat), v__ = (vT #[]) ∧ post__ = [mp Value.string kb KM', setsP (Bs ++ [a]) S'] ∧ (KMs KM' S') ∧ (∀ k, (∃ y ∈ KM', y.1 = k) ↔ (∃ y ∈ KM, y.1 = k) ∨ k = (strN (ints x.key))) ∧ (∀ b ∈ S, b ∈ S')) := by
 have hal := hw.alv
 obtain ⟨kv, ev, cn, hwc, hkv, hev⟩ := hw
 have hrc := RC.of_cells hwc
 refine Tri.into (n := 25) (al := [(Value.map (some kb)), (vQ a)]) func82 rfl ntmps82 rfl rfl fun w F H => ?_
 refine cR fun _ hK1_ => ?_
 refine sm (Value.map (some kb)) ?_
 refine sm (vQ a) ?_
 refine sv (v := (vQ a)) (by kernel_rfl) ?_
 refine sv (v := (vQ a)) (by kernel_rfl) ?_
 refine sv (v := kv) (x_load1 rfl underlying101 rfl (RC.cell hrc (Holds.ro_at H 0 rfl) (j := 0) (u := kv) (rfl))) ?_
 refine sv (v := (Value.string (strN (ints x.key)))) (x_b2sRS rfl hkv (Holds.ro_at H 0 rfl) underlying101 underlying5 underlying9) ?_
 rcases mget_or KM (strN (ints x.key)) with ⟨f2_n, f2_g⟩ | ⟨f2_y, f2_m, f2_k, f2_g⟩
 ·skip
  refine sv (v := (Value.map none)) (x_lookup (K := Value.string) (a := strN (ints x.key)) (m := KM) rfl rfl (KeyKind.string underlying9) underlying87 z91 (Holds.mprd H 1 rfl) (by rw [f2_g]; rfl)) ?_
  refine sv (v := (Value.map none)) (x_assign rfl) ?_
  refine wn (hK1_ _ _ ?_)
  refine C_seq (fun _ hK3_ => ?_)
  refine cR fun _ hK4_ => ?_
  refine sm (Value.map none) ?_
  refine sv (v := (vB true)) (by kernel_rfl) ?_
  refine wn (hK4_ _ _ ?_)
  refine C_condT rfl ?_
  refine cR fun _ hK5_ => ?_
  refine S_list (T_makeMap pn H ?_)
  intro b6_ w7_ S9_ H8_
  have S10_ := Same.trans (Same.refl w) S9_
  refine sv (v := (Value.map (some b6_))) (x_assign rfl) ?_
  refine wn (hK5_ _ _ ?_)
  refine C_reg ?_
  refine sm (Value.map (some kb)) ?_
  refine sm (vQ a) ?_
  refine sv (v := (vQ a)) (by kernel_rfl) ?_
  refine sv (v := (vQ a)) (by kernel_rfl) ?_
  refine sv (v := kv) (x_load1 rfl underlying101 rfl (RC.cell hrc (Holds.ro_at H8_ 1 rfl) (j := 0) (u := kv) (rfl))) ?_
  refine sv (v := (Value.string (strN (ints x.key)))) (x_b2sRS rfl hkv (Holds.ro_at H8_ 1 rfl) underlying101 underlying5 underlying9) ?_
  refine sm (Value.map (some b6_)) ?_
  refine S_list0 (T_mapUpdate (K := Value.string) (a := strN (ints x.key)) rfl rfl rfl (KeyKind.string underlying9) underlying87 H8_ 2 rfl (hKM.nd) ?_)
  intro w11_ S13_ H12_
  have S14_ := Same.trans S10_ S13_
  refine wn (hK3_ _ _ ?_)
  refine C_reg ?_
  refine sm (Value.map (some b6_)) ?_
  refine sm (vQ a) ?_
  have H16_ := ((Holds.bring H12_ 1 rfl) :)
  refine S_list (T_call (al := [(Value.map (some b6_)), (vQ a)]) (pre := [mp pn b6_ []]) rfl rfl cb81 (gsAdd R b6_ a [] (hal) ((fun p hp => by cases hp)) ((fun p hp => by cases hp))) H16_ ?_)
  rintro v15_ p20_ w17_ ⟨rfl, rfl⟩ S19_ H18_
  have S21_ := Same.trans S14_ S19_
  have H22_ := ((Holds.bring (Holds.bring H18_ 3 rfl) 2 rfl) :)
  have H23_ := Holds.set_new H22_
  have H24_ := H23_
  refine wpList_nil ?_
  refine R_0 rfl ?_
  have eH25_ : mp Value.string kb (mset KM (strN (ints x.key)) (Value.map (some b6_))) = mp Value.string kb (mset KM (strN (ints x.key)) (.map (some b6_))) := by first | rfl | (congr 1 <;> first | rfl | omega | (simp; done) | (simp; omega))
  have H25_ : Holds w17_ (setsP (Bs ++ [a]) (b6_ :: S) :: ro R :: mp Value.string kb (mset KM (strN (ints x.key)) (.map (some b6_))) :: F) := cast1 (P := fun c__ => Holds w17_ (setsP (Bs ++ [a]) (b6_ :: S) :: ro R :: c__ :: F)) eH25_ H24_
  have H26_ := Holds.pkF H25_ [1, 1, 0] 0
  exact ⟨_, _, rfl, ⟨(mset KM (strN (ints x.key)) (.map (some b6_))), (b6_ :: S), rfl, rfl, (hKM.add f2_n), (fun k => keys_new f2_n _ k), (fun b hb => List.mem_cons_of_mem _ hb)⟩, S21_, H26_⟩
 ·skip
  obtain ⟨f2_b, f2_b_, f2_v⟩ := hKM.v f2_y f2_m
  rw [f2_v] at f2_g
  refine sv (v := (Value.map (some f2_b))) (x_lookup (K := Value.string) (a := strN (ints x.key)) (m := KM) rfl rfl (KeyKind.string underlying9) underlying87 z91 (Holds.mprd H 1 rfl) (by rw [f2_g]; rfl)) ?_
  refine sv (v := (Value.map (some f2_b))) (x_assign rfl) ?_
  refine wn (hK1_ _ _ ?_)
  refine C_seq (fun _ hK27_ => ?_)
  refine cR fun _ hK28_ => ?_
  refine sm (Value.map (some f2_b)) ?_
  refine sv (v := (vB false)) (by kernel_rfl) ?_
  refine wn (hK28_ _ _ ?_)
  refine C_condF rfl ?_
  refine C_skip (X_then (hK27_ _ _ ?_))
  refine C_reg ?_
  refine sm (Value.map (some f2_b)) ?_
  refine sm (vQ a) ?_
  have H29_ := ((Holds.bring H 2 rfl) :)
  obtain ⟨m30_, hm31_, H32_⟩ := Holds.set_out H29_ f2_b_
  have H33_ := H32_
  have H35_ := ((Holds.bring H33_ 2 rfl) :)
  refine S_list (T_call (al := [(Value.map (some f2_b)), (vQ a)]) (pre := [mp pn f2_b m30_]) rfl rfl cb81 (gsAdd R f2_b a m30_ (hal) ((fun p hp => hB p.1 (hm31_.1 p hp))) ((fun p hp e => hf (e ▸ hm31_.1 p hp)))) H35_ ?_)
  rintro v34_ p39_ w36_ ⟨rfl, rfl⟩ S38_ H37_
  have S40_ := Same.trans (Same.refl w) S38_
  have H41_ := ((Holds.bring (Holds.bring H37_ 2 rfl) 2 rfl) :)
  have H42_ := Holds.set_put H41_ hm31_ hf
  have H43_ := H42_
  refine wpList_nil ?_
  refine R_0 rfl ?_
  have H44_ := Holds.pkF H43_ [1, 1, 0] 0
  exact ⟨_, _, rfl, ⟨KM, S, rfl, rfl, (hKM), (fun k => keys_old f2_m f2_k k), (fun b hb => hb)⟩, S40_, H44_⟩
end Go.Proofs.YtlnihndjepjagaaGreat
set_option linter.unusedVariables false
set_option linter.unusedSimpArgs false
namespace Go.Proofs.YtlnihndjepjagaaGreat
open Go Go.RowKit Gw Tryz
open Go.Value renaming int → vI, bool → vB, slice → vS, pointer → vP, agg → vA, tuple → vT

section
variable {P : Program} {n : Nat} {e : Env} {w : World} {d : Option Nat} {ty : TypeId} {pos : String} {af : Array Edge} {g : Option (Nat × Bool)}
theorem x_eqSl {t u el : TypeId} {x y : Operand} {a : Addr} {m c : Nat} (hx : ev n e x = .slice (some a) m c) (hy : ev n e y = .slice none 0 0) (hu : P.underlying t = some (.slice el)) :
    (execOp (ev n e) ⟨d, .binOp .eql t x y u, ty, pos, af, g⟩).run P w = .ok (.value (.bool false)) w := by
  simp only [execOp]
  rw [hx, hy]
  refine run_v _ ?_
  have h1 : (eqGuard .eql t x y (.slice (some a) m c) (.slice none 0 0)).run P w = .ok () w := by simp [eqGuard]
  have h2 : (Op.equal t (.slice (some a) m c) (.slice none 0 0)).run P w = .ok false w := by
    show (Op.equalIn (9999 + 1) t (.slice (some a) m c) (.slice none 0 0)).run P w = _
    rw [Op.equalIn]
    simp only [Sem.run_bind, run_underlying hu, Result.andThen_ok]
    rfl
  simp only [Sem.run_bind, h1, Result.andThen_ok, binOp]
  simp [h2]
theorem x_eqSn {t u el : TypeId} {x y : Operand} (hx : ev n e x = .slice none 0 0) (hy : ev n e y = .slice none 0 0) (hu : P.underlying t = some (.slice el)) :
    (execOp (ev n e) ⟨d, .binOp .eql t x y u, ty, pos, af, g⟩).run P w = .ok (.value (.bool true)) w := by
  simp only [execOp]
  rw [hx, hy]
  refine run_v _ ?_
  have h1 : (eqGuard .eql t x y (.slice none 0 0) (.slice none 0 0)).run P w = .ok () w := by simp [eqGuard]
  have h2 : (Op.equal t (.slice none 0 0) (.slice none 0 0)).run P w = .ok true w := by
    show (Op.equalIn (9999 + 1) t (.slice none 0 0) (.slice none 0 0)).run P w = _
    rw [Op.equalIn]
    simp only [Sem.run_bind, run_underlying hu, Result.andThen_ok]
    rfl
  simp only [Sem.run_bind, h1, Result.andThen_ok, binOp]
  simp [h2]
end
/-! ### What a group holds -/
abbrev TR := Tr (List UInt8)
structure TWs (R : HP) (W : TR) (S : List Nat) (M : List GW) : Prop where
  ok : TOk AO R W ∧ LocT AO W ∧ blackT W
  s : srt AO (ino W)
  v : ∀ n ∈ ino W, ∃ b ∈ S, n.v = .iface 91 (.map (some b))
  d : ∀ kb ke, (∃ n ∈ ino W, n.kb = kb ∧ n.ke = ke) ↔ ∃ x ∈ M, x.hasEnd = true ∧ x.key.data.toList = kb ∧ x.end_.data.toList = ke
theorem TWs.mono {R R' : HP} (s : Sub R R') {W : TR} {S : List Nat} {M : List GW} (h : TWs R W S M) : TWs R' W S M := ⟨⟨h.ok.1.mono s, h.ok.2⟩, h.s, h.v, h.d⟩
theorem TWs.more {R : HP} {W : TR} {S S' : List Nat} {M : List GW} (h : TWs R W S M) (hs : ∀ b ∈ S, b ∈ S') : TWs R W S' M := ⟨h.ok, h.s, fun n hn => by obtain ⟨b, h1, h2⟩ := h.v n hn; exact ⟨b, hs b h1, h2⟩, h.d⟩
theorem TWs.nil {R : HP} : TWs R (Tr.lf : TR) [] [] := ⟨⟨trivial, trivial, trivial⟩, List.Pairwise.nil, fun n hn => by simp [ino] at hn, fun kb ke => ⟨fun ⟨n, hn, _⟩ => by simp [ino] at hn, fun ⟨x, hx, _⟩ => by cases hx⟩⟩
theorem TWs.key {R : HP} {W : TR} {S : List Nat} {M : List GW} {x : GW} (h : TWs R W S M) (hx : x.hasEnd = false) : TWs R W S (M ++ [x]) := ⟨h.ok, h.s, h.v, fun kb ke => by
  rw [h.d]
  constructor
  · rintro ⟨y, hy, h1⟩; exact ⟨y, List.mem_append.2 (.inl hy), h1⟩
  · rintro ⟨y, hy, h1⟩
    rcases List.mem_append.1 hy with hy | hy
    · exact ⟨y, hy, h1⟩
    · rw [List.mem_singleton.1 hy, hx] at h1; cases h1.1⟩
theorem TWs.same {R : HP} {W : TR} {S : List Nat} {M : List GW} {x : GW} {n : ND (List UInt8)} (h : TWs R W S M) (hn : n ∈ ino W) (hk : n.kb = x.key.data.toList ∧ n.ke = x.end_.data.toList) : TWs R W S (M ++ [x]) := ⟨h.ok, h.s, h.v, fun kb ke => by
  rw [h.d]
  constructor
  · rintro ⟨y, hy, h1⟩; exact ⟨y, List.mem_append.2 (.inl hy), h1⟩
  · rintro ⟨y, hy, h1⟩
    rcases List.mem_append.1 hy with hy | hy
    · exact ⟨y, hy, h1⟩
    · rw [List.mem_singleton.1 hy] at h1
      exact (h.d kb ke).1 ⟨n, hn, hk.1.trans h1.2.1, hk.2.trans h1.2.2⟩⟩
theorem TWs.ins {R : HP} {W W' : TR} {S : List Nat} {M : List GW} {x : GW} {L1 L2 : List (ND (List UInt8))} {z : ND (List UInt8)} {b e : Value} {c : Nat} (h : TWs R W S M) (hx : x.hasEnd = true) (h1 : TOk AO R W' ∧ LocT AO W' ∧ blackT W') (h2 : ino W' = L1 ++ z.er :: L2) (h3 : ino W = L1 ++ L2)
    (h4 : z.b = b ∧ z.e = e ∧ z.v = .iface 91 (.map (some c)) ∧ z.kb = x.key.data.toList ∧ z.ke = x.end_.data.toList) (h5 : srt AO (ino W')) : TWs R W' (c :: S) (M ++ [x]) := by
  have hm : ∀ n, n ∈ ino W' ↔ n ∈ ino W ∨ n = z.er := fun n => by
    rw [h2, h3]
    simp only [List.mem_append, List.mem_cons]
    constructor
    · rintro (h | h | h)
      · exact .inl (.inl h)
      · exact .inr h
      · exact .inl (.inr h)
    · rintro ((h | h) | h)
      · exact .inl h
      · exact .inr (.inr h)
      · exact .inr (.inl h)
  refine ⟨h1, h5, fun n hn => ?_, fun kb ke => ?_⟩
  · rcases (hm n).1 hn with hn | rfl
    · obtain ⟨b, e1, e2⟩ := h.v n hn; exact ⟨b, List.mem_cons_of_mem _ e1, e2⟩
    · exact ⟨c, List.mem_cons_self .., h4.2.2.1⟩
  · constructor
    · rintro ⟨n, hn, e1, e2⟩
      rcases (hm n).1 hn with hn | rfl
      · obtain ⟨y, hy, h6⟩ := (h.d kb ke).1 ⟨n, hn, e1, e2⟩
        exact ⟨y, List.mem_append.2 (.inl hy), h6⟩
      · exact ⟨x, by simp, hx, h4.2.2.2.1.symm.trans e1, h4.2.2.2.2.symm.trans e2⟩
    · rintro ⟨y, hy, h6⟩
      rcases List.mem_append.1 hy with hy | hy
      · obtain ⟨n, hn, e⟩ := (h.d kb ke).2 ⟨y, hy, h6⟩
        exact ⟨n, (hm n).2 (.inl hn), e⟩
      · rw [List.mem_singleton.1 hy] at h6
        exact ⟨z.er, (hm _).2 (.inr rfl), h4.2.2.2.1.trans h6.2.1, h4.2.2.2.2.trans h6.2.2⟩
def aggm (PM : List (Nat × GW)) : List (Nat × Value) := PM.map fun p => (p.1, .agg #[])
def gws (PM : List (Nat × GW)) : List GW := PM.map fun p => p.2
structure GSt (R : HP) (PM : List (Nat × GW)) (KM : List (ByteArray × Value)) (S : List Nat) (W : TR) : Prop where
  w : ∀ p ∈ PM, WNew R p.1 p.2
  k : KMs KM S
  kd : ∀ k, (∃ y ∈ KM, y.1 = k) ↔ ∃ p ∈ PM, p.2.hasEnd = false ∧ p.2.key = k
  t : TWs R W S (gws PM)
theorem GSt.mono {R R' : HP} (s : Sub R R') {PM : List (Nat × GW)} {KM : List (ByteArray × Value)} {S : List Nat} {W : TR} (h : GSt R PM KM S W) : GSt R' PM KM S W := ⟨fun p hp => (h.w p hp).mono s, h.k, h.kd, h.t.mono s⟩
theorem GSt.nil {R : HP} : GSt R [] [] [] (Tr.lf : TR) := ⟨fun p hp => absurd hp (by simp), KMs.nil, fun k => ⟨fun ⟨y, hy, _⟩ => absurd hy (by simp), fun ⟨y, hy, _⟩ => absurd hy (by simp)⟩, TWs.nil⟩
theorem fst_snoc {PM : List (Nat × GW)} {a : Nat} {x : GW} : List.map Prod.fst (PM ++ [(a, x)]) = List.map Prod.fst PM ++ [a] := by rw [List.map_append]; rfl
theorem agg_snoc {PM : List (Nat × GW)} {a : Nat} {x : GW} : aggm (PM ++ [(a, x)]) = aggm PM ++ [(a, vA #[])] := by unfold aggm; rw [List.map_append]; rfl
theorem cnt_ins {W W' : TR} {L1 L2 : List (ND (List UInt8))} {z : ND (List UInt8)} {PM : List (Nat × GW)} {p : Nat × GW} {cnt : Int} (h1 : ino W' = L1 ++ z.er :: L2) (h2 : ino W = L1 ++ L2) (h : cnt = ((ino W).length : Int) ∧ (ino W).length ≤ PM.length) :
    cnt + 1 = ((ino W').length : Int) ∧ (ino W').length ≤ (PM ++ [p]).length := by
  rw [h2] at h
  rw [h1]
  simp only [List.length_append, List.length_cons, List.length_nil] at h ⊢
  omega
theorem map2_snoc {PM : List (Nat × GW)} {a : Nat} {x : GW} : gws (PM ++ [(a, x)]) = gws PM ++ [x] := by unfold gws; rw [List.map_append]; rfl
theorem agg_len (PM : List (Nat × GW)) : (aggm PM).length = PM.length := List.length_map ..
theorem w_snoc {R : HP} {PM : List (Nat × GW)} {a : Nat} {x : GW} (h : ∀ p ∈ PM, WNew R p.1 p.2) (hw : WNew R a x) : ∀ p ∈ PM ++ [(a, x)], WNew R p.1 p.2 := fun p hp => by
  rcases List.mem_append.1 hp with hp | hp
  · exact h p hp
  · rw [List.mem_singleton.1 hp]; exact hw
theorem kd_key {PM : List (Nat × GW)} {KM KM' : List (ByteArray × Value)} {a : Nat} {x : GW} (h : ∀ k, (∃ y ∈ KM, y.1 = k) ↔ ∃ p ∈ PM, p.2.hasEnd = false ∧ p.2.key = k) (hx : x.hasEnd = false) (h' : ∀ k, (∃ y ∈ KM', y.1 = k) ↔ (∃ y ∈ KM, y.1 = k) ∨ k = strN (ints x.key)) :
    ∀ k, (∃ y ∈ KM', y.1 = k) ↔ ∃ p ∈ PM ++ [(a, x)], p.2.hasEnd = false ∧ p.2.key = k := fun k => by
  rw [h', h, strI]
  constructor
  · rintro (⟨p, hp, e⟩ | rfl)
    · exact ⟨p, List.mem_append.2 (.inl hp), e⟩
    · exact ⟨(a, x), by simp, hx, rfl⟩
  · rintro ⟨p, hp, e⟩
    rcases List.mem_append.1 hp with hp | hp
    · exact .inl ⟨p, hp, e⟩
    · rw [List.mem_singleton.1 hp] at e; exact .inr e.2.symm
theorem kd_end {PM : List (Nat × GW)} {KM : List (ByteArray × Value)} {a : Nat} {x : GW} (h : ∀ k, (∃ y ∈ KM, y.1 = k) ↔ ∃ p ∈ PM, p.2.hasEnd = false ∧ p.2.key = k) (hx : x.hasEnd = true) :
    ∀ k, (∃ y ∈ KM, y.1 = k) ↔ ∃ p ∈ PM ++ [(a, x)], p.2.hasEnd = false ∧ p.2.key = k := fun k => by
  rw [h]
  constructor
  · rintro ⟨p, hp, e⟩; exact ⟨p, List.mem_append.2 (.inl hp), e⟩
  · rintro ⟨p, hp, e⟩
    rcases List.mem_append.1 hp with hp | hp
    · exact ⟨p, hp, e⟩
    · rw [List.mem_singleton.1 hp, hx] at e; cases e.1
theorem GSt.addKey {R : HP} {PM : List (Nat × GW)} {KM KM' : List (ByteArray × Value)} {S S' : List Nat} {W : TR} {a : Nat} {x : GW} (h : GSt R PM KM S W) (hw : WNew R a x) (hx : x.hasEnd = false) (h1 : KMs KM' S') (h2 : ∀ k, (∃ y ∈ KM', y.1 = k) ↔ (∃ y ∈ KM, y.1 = k) ∨ k = strN (ints x.key))
    (h3 : ∀ b ∈ S, b ∈ S') : GSt R (PM ++ [(a, x)]) KM' S' W := ⟨w_snoc h.w hw, h1, kd_key h.kd hx h2, by rw [map2_snoc]; exact (h.t.more h3).key hx⟩
theorem GSt.addSame {R : HP} {PM : List (Nat × GW)} {KM : List (ByteArray × Value)} {S : List Nat} {W : TR} {a : Nat} {x : GW} {n : ND (List UInt8)} (h : GSt R PM KM S W) (hw : WNew R a x) (hx : x.hasEnd = true) (hn : n ∈ ino W) (hk : n.kb = x.key.data.toList ∧ n.ke = x.end_.data.toList) :
    GSt R (PM ++ [(a, x)]) KM S W := ⟨w_snoc h.w hw, h.k, kd_end h.kd hx, by rw [map2_snoc]; exact h.t.same hn hk⟩
theorem GSt.addNew {R : HP} {PM : List (Nat × GW)} {KM : List (ByteArray × Value)} {S : List Nat} {W W' : TR} {a c : Nat} {x : GW} {L1 L2 : List (ND (List UInt8))} {z : ND (List UInt8)} {b e : Value} (h : GSt R PM KM S W) (hw : WNew R a x) (hx : x.hasEnd = true)
    (h1 : TOk AO R W' ∧ LocT AO W' ∧ blackT W') (h2 : ino W' = L1 ++ z.er :: L2) (h3 : ino W = L1 ++ L2) (h4 : z.b = b ∧ z.e = e ∧ z.v = .iface 91 (.map (some c)) ∧ z.kb = x.key.data.toList ∧ z.ke = x.end_.data.toList) (h5 : srt AO (ino W')) :
    GSt R (PM ++ [(a, x)]) KM (c :: S) W' := ⟨w_snoc h.w hw, h.k.more fun b hb => List.mem_cons_of_mem _ hb, kd_end h.kd hx, by rw [map2_snoc]; exact h.t.ins hx h1 h2 h3 h4 h5⟩
end Go.Proofs.YtlnihndjepjagaaGreat
set_option linter.unusedVariables false
set_option linter.unusedSimpArgs false
namespace Go.Proofs.YtlnihndjepjagaaGreat
open Go Go.RowKit Gw Tryz
open Go.Value renaming int → vI, bool → vB, slice → vS, pointer → vP, agg → vA, tuple → vT

set_option maxHeartbeats 1600000 in
theorem grNewIv (R : HP) (i1 i2 : ByteArray) :
    Tri Tryz.prog 83 #[(Value.string i1), (Value.string i2)] R [] (fun v__ post__ => v__ = (vA #[(Value.iface 222 (Value.string i1)), (Value.iface 222 (Value.string i2))]) ∧ post__ = []) := by
 refine Tri.into (n := 10) (al := [(Value.string i1), (Value.string i2)]) func83 rfl ntmps83 rfl rfl fun w F H => ?_
 refine cR fun _ hK1_ => ?_
 refine S_list (T_alloc z177 H ?_)
 intro b2_ w3_ S5_ H4_
 have S6_ := Same.trans (Same.refl w) S5_
 refine wn (hK1_ _ _ ?_)
 refine cR fun _ hK7_ => ?_
 refine sm (Value.string i1) ?_
 refine sv (v := (Value.iface 222 (Value.string i1))) (by kernel_rfl) ?_
 refine sm (Value.string i2) ?_
 refine sv (v := (Value.iface 222 (Value.string i2))) (by kernel_rfl) ?_
 refine sv (v := (vA #[(Value.iface 222 (Value.string i1)), (Value.iface 222 (Value.string i2))])) (by kernel_rfl) ?_
 refine S_list0 (T_storeN (vs := [(Value.iface 222 (Value.string i1)), (Value.iface 222 (Value.string i2))]) rfl rfl z177 rfl (by simp [Value.oneCell']) H4_ 0 rfl (Nat.le_of_ble_eq_true (by rfl)) ?_)
 intro w8_ S10_ H9_
 have S11_ := Same.trans S6_ S10_
 refine wn (hK7_ _ _ ?_)
 refine C_ret ?_
 refine R_any (v := (vA #[(Value.iface 222 (Value.string i1)), (Value.iface 222 (Value.string i2))])) (run_results1 rfl ⟨_, rfl, load_resN underlying177 rfl z177 rfl (vs := [(Value.iface 222 (Value.string i1)), (Value.iface 222 (Value.string i2))]) (Holds.cl_cells H9_ 0 rfl 0 rfl)⟩) ?_
 have H12_ := Holds.pkF H9_ [1] 1
 exact ⟨_, _, rfl, ⟨rfl, rfl⟩, S11_, H12_⟩

set_option maxHeartbeats 16000000 in
theorem ggAdd (R : HP) (zb kb tb sb wb ib : Nat) (cnt : Int) (PM : List (Nat × GW)) (KM : List (ByteArray × Value)) (S : List Nat) (W : TR) (a : Nat) (x : GW) (hw : WNew R a x) (hf : a ∉ (List.map Prod.fst PM)) (hG : GSt R PM KM S W) (hcn : cnt = (List.length (ino W) : Int) ∧ (ino W).length ≤ List.length PM) (hpl : PM.length ≤ 100000) :
    Tri Tryz.prog 65 #[(vQ zb), (vQ a)] R [cl zb 97 [(Value.map (some kb)), (Value.iface 183 (vQ tb)), (Value.map (some wb)), (Value.map (some ib))], mp Value.string kb KM, setsP (List.map Prod.fst PM) S, cl tb 185 [(vQ (rt sb W)), (vI .i64 cnt), (vQ sb)], tr sb sb W, clf sb 182 [(Value.nilIface), (Value.nilIface), (Value.nilIface), (Value.nilIface), (vP none), (vP none), (vP none), (vI .i64 0)], mp pn wb (aggm PM)] (fun v__ post__ => ∃ (KM' : List (ByteArray × Value)) (S' : List Nat) (W' : TR) (cnt' : Int), v__ = (vT #[]) ∧ post__ = [cl zb 97 [(Value.map (some kb)), (Value.iface 183 (vQ tb)), (Value.map (some wb)), (Value.map (some ib))], mp Value.string kb KM', setsP (List.map Prod.fst (PM ++ [(a, x)])) S', cl tb 185 [(vQ (rt sb W')), (vI .i64 cnt'), (vQ sb)], tr sb sb W', clf sb 182 [(Value.nilIface), (Value.nilIface), (Value.nilIface), (Value.nilIface), (vP none), (vP none), (vP none), (vI .i64 0)], mp pn wb (aggm (PM ++ [(a, x)]))] ∧ (GSt R (PM ++ [(a, x)]) KM' S' W') ∧ (cnt' = (List.length (ino W') : Int) ∧ (ino W').length ≤ List.length (PM ++ [(a, x)]))) := by
 have hw0 := hw
 have hal := hw.alv
 obtain ⟨kv, ev, cn, hwc, hkv, hev⟩ := hw
 have hrc := RC.of_cells hwc
 refine Tri.into (n := 62) (al := [(vQ zb), (vQ a)]) func65 rfl ntmps65 rfl rfl fun w F H => ?_
 refine cR fun _ hK1_ => ?_
 refine sm (vQ zb) ?_
 refine sv (v := (vQ zb)) (by kernel_rfl) ?_
 refine sv (v := (vP (some ⟨zb, 2, none⟩))) (by kernel_rfl) ?_
 refine sv (v := (Value.map (some wb))) (x_load1 rfl underlying91 rfl ((Holds.rd H 1 rfl) 2 (Value.map (some wb)) rfl)) ?_
 refine sm (vQ a) ?_
 have H3_ := ((Holds.bring (Holds.bring H 7 rfl) 1 rfl) :)
 refine S_list (T_call (al := [(Value.map (some wb)), (vQ a)]) (pre := [mp pn wb (aggm PM)]) rfl rfl cb81 (gsAdd R wb a (aggm PM) (hal) ((fun p hp => by obtain ⟨q, hq, rfl⟩ := List.mem_map.1 hp; exact (hG.w q hq).alv)) ((fun p hp e => by obtain ⟨q, hq, rfl⟩ := List.mem_map.1 hp; exact hf (List.mem_map.2 ⟨q, hq, e⟩)))) H3_ ?_)
 rintro v2_ p7_ w4_ ⟨rfl, rfl⟩ S6_ H5_
 have S8_ := Same.trans (Same.refl w) S6_
 refine wn (hK1_ _ _ ?_)
 refine C_seq (fun _ hK9_ => ?_)
 refine cR fun _ hK10_ => ?_
 refine sm (vQ a) ?_
 refine sv (v := (vQ a)) (by kernel_rfl) ?_
 refine sv (v := (vP (some ⟨a, 1, none⟩))) (by kernel_rfl) ?_
 rcases hev with ⟨hx, rfl⟩ | ⟨hx, ea, em, ec, rfl, hes⟩
 ·skip
  refine sv (v := (vS none 0 0)) (x_load1 rfl underlying101 rfl (RC.cell hrc (Holds.ro_at H5_ 0 rfl) (j := 1) (u := (vS none 0 0)) (rfl))) ?_
  refine sv (v := (vB true)) (x_eqSn rfl rfl underlying101) ?_
  refine wn (hK10_ _ _ ?_)
  refine C_condT rfl ?_
  refine cR fun _ hK11_ => ?_
  refine sm (vQ zb) ?_
  refine sv (v := (vQ zb)) (by kernel_rfl) ?_
  refine sv (v := (vQ zb)) (by kernel_rfl) ?_
  refine sv (v := (Value.map (some kb))) (x_load1 rfl underlying87 rfl ((Holds.rd H5_ 2 rfl) 0 (Value.map (some kb)) rfl)) ?_
  refine sm (vQ a) ?_
  have H18_ := ((Holds.bring (Holds.bring (Holds.bring H5_ 4 rfl) 4 rfl) 2 rfl) :)
  refine S_list (T_call (al := [(Value.map (some kb)), (vQ a)]) (pre := [mp Value.string kb KM, setsP (List.map Prod.fst PM) S]) rfl rfl cb82 (gkAdd R kb a KM (List.map Prod.fst PM) S x (hw0) ((fun p hp => by obtain ⟨q, hq, e⟩ := List.mem_map.1 hp; rw [← e]; exact (hG.w q hq).alv)) (hf) (hG.k)) H18_ ?_)
  rintro v12_ p22_ w19_ ⟨KM13_, S14_, rfl, rfl, he15_, he16_, he17_⟩ S21_ H20_
  have S23_ := Same.trans S8_ S21_
  refine wn (hK11_ _ _ ?_)
  refine C_ret (X_thenR ?_)
  refine R_0r rfl ?_
  have H24_ : Holds w19_ (ro R :: mp Value.string kb KM13_ :: setsP ((List.map Prod.fst PM) ++ [a]) S14_ :: mp pn wb ((aggm PM) ++ [(a, vA #[])]) :: cl zb 97 [(Value.map (some kb)), (Value.iface 183 (vQ tb)), (Value.map (some wb)), (Value.map (some ib))] :: cl tb 185 [(vQ (rt sb W)), (vI .i64 cnt), (vQ sb)] :: tr sb sb W :: clf sb 182 [(Value.nilIface), (Value.nilIface), (Value.nilIface), (Value.nilIface), (vP none), (vP none), (vP none), (vI .i64 0)] :: F) := (H20_)
  have H25_ := H24_; rw [← fst_snoc (x := x), ← agg_snoc (x := x)] at H25_
  have H26_ := Holds.pkF H25_ [0, 3, 0, 0, 1, 1, 1, 0] 0
  exact ⟨_, _, rfl, ⟨KM13_, S14_, W, cnt, rfl, rfl, (hG.addKey hw0 hx he15_ he16_ he17_), (⟨hcn.1, by rw [List.length_append]; omega⟩)⟩, S23_, H26_⟩
 ·skip
  refine sv (v := (vS (some ea) em ec)) (x_load1 rfl underlying101 rfl (RC.cell hrc (Holds.ro_at H5_ 0 rfl) (j := 1) (u := (vS (some ea) em ec)) (rfl))) ?_
  refine sv (v := (vB false)) (x_eqSl rfl rfl underlying101) ?_
  refine wn (hK10_ _ _ ?_)
  refine C_condF rfl ?_
  refine C_skip (X_then (hK9_ _ _ ?_))
  refine C_seq (fun _ hK27_ => ?_)
  refine A_start (S := fun w => MpRd pn wb ((aggm PM) ++ [(a, vA #[])]) w ∧ Rd zb [(Value.map (some kb)), (Value.iface 183 (vQ tb)), (Value.map (some wb)), (Value.map (some ib))] w ∧ MpRd Value.string kb KM w ∧ Rd tb [(vQ (rt sb W)), (vI .i64 cnt), (vQ sb)] w ∧ RtRd w (rt sb W) (rmx W) ∧ (Rd sb [(Value.nilIface), (Value.nilIface), (Value.nilIface), (Value.nilIface), (vP none), (vP none), (vP none), (vI .i64 0)] w ∧ Blk w sb) ∧ Sub R (hp w)) (N := 13) foll rfl rfl ?_
  have H28_ := Holds.drew_ H5_
  refine A_cut #[true, true, true, true, true, true, true, true, true, true, true, true, false] 1 (fun a__ w1__ => ∃ b36_ : Nat, ∃ h : Env, a__ = mkA 62 (upd (upd (upd (upd h 0 (vQ zb)) 1 (vQ a)) 4 (vQ b36_)) 34 (vA #[(Value.iface 222 (Value.string (strN (ints x.key)))), (Value.iface 222 (Value.string (strN (ints x.end_))))])) [] ∧ Holds w1__ (cl b36_ 177 [(Value.nilIface), (Value.nilIface)] :: ro R :: mp pn wb ((aggm PM) ++ [(a, vA #[])]) :: cl zb 97 [(Value.map (some kb)), (Value.iface 183 (vQ tb)), (Value.map (some wb)), (Value.map (some ib))] :: mp Value.string kb KM :: setsP (List.map Prod.fst PM) S :: cl tb 185 [(vQ (rt sb W)), (vI .i64 cnt), (vQ sb)] :: tr sb sb W :: clf sb 182 [(Value.nilIface), (Value.nilIface), (Value.nilIface), (Value.nilIface), (vP none), (vP none), (vP none), (vI .i64 0)] :: F) ∧ Same w w1__) ?_ ?_
  ·rintro _ w86_ ⟨b36_, h, rfl, H87_, S88_⟩
   refine A_ready (i := 12) (rs := []) (by kernel_rfl) ?_
   refine AllR.cons ?_ AllR.nil
   refine A_op0 (ls' := #[true, true, true, true, true, true, true, true, true, true, true, true, true]) rfl (by kernel_rfl) (T_storeN (vs := [(Value.iface 222 (Value.string (strN (ints x.key)))), (Value.iface 222 (Value.string (strN (ints x.end_))))]) rfl rfl z177 rfl (by simp [Value.oneCell']) H87_ 0 rfl (Nat.le_of_ble_eq_true (by rfl)) ?_)
   intro w89_ S91_ H90_
   have S92_ := Same.trans S88_ S91_
   refine ⟨⟨Holds.mprd H90_ 2 rfl, Holds.rd H90_ 3 rfl, Holds.mprd H90_ 4 rfl, Holds.rd H90_ 6 rfl, Holds.tr_rd H90_ 7 rfl 8 rfl, (And.intro (Holds.rdf H90_ 8 rfl) (Holds.blk H90_ 8 rfl)), (Holds.ro_at H90_ 1 rfl)⟩, ?_⟩
   refine A_done (by kernel_rfl) ?_
   refine (X_then (hK27_ _ _ ?_))
   refine C_seq (fun _ hK93_ => ?_)
   refine C_seq (fun _ hK94_ => ?_)
   refine A_start (S := fun w => Rd b36_ [(Value.iface 222 (Value.string (strN (ints x.key)))), (Value.iface 222 (Value.string (strN (ints x.end_))))] w ∧ MpRd pn wb ((aggm PM) ++ [(a, vA #[])]) w ∧ Rd zb [(Value.map (some kb)), (Value.iface 183 (vQ tb)), (Value.map (some wb)), (Value.map (some ib))] w ∧ MpRd Value.string kb KM w ∧ Rd tb [(vQ (rt sb W)), (vI .i64 cnt), (vQ sb)] w ∧ Sub R (hp w)) (N := 7) foll rfl rfl ?_
   have H95_ := Holds.drew_ H90_
   have hq96_ := And.intro (Holds.rd H95_ 0 rfl) (And.intro (Holds.mprd H95_ 2 rfl) (And.intro (Holds.rd H95_ 3 rfl) (And.intro (Holds.mprd H95_ 4 rfl) (And.intro (Holds.rd H95_ 6 rfl) ((Holds.ro_at H95_ 1 rfl))))))
   refine A_tk 0 (v := (vQ zb)) rfl (by kernel_rfl) (fun w hS => x_move rfl) hq96_ ?_
   refine A_tk 1 (v := (vQ zb)) rfl (by kernel_rfl) (fun w hS => by kernel_rfl) hq96_ ?_
   refine A_tk 2 (v := (vP (some ⟨zb, 1, none⟩))) rfl (by kernel_rfl) (fun w hS => by kernel_rfl) hq96_ ?_
   refine A_tk 3 (v := (Value.iface 183 (vQ tb))) rfl (by kernel_rfl) (fun w hS => x_load1 rfl underlying89 rfl (hS.2.2.1 1 (Value.iface 183 (vQ tb)) rfl)) hq96_ ?_
   refine A_tk 4 (v := (vA #[(Value.iface 222 (Value.string (strN (ints x.key)))), (Value.iface 222 (Value.string (strN (ints x.end_))))])) rfl (by kernel_rfl) (fun w hS => x_loadN (vs := [(Value.iface 222 (Value.string (strN (ints x.key)))), (Value.iface 222 (Value.string (strN (ints x.end_))))]) rfl underlying177 rfl z177 rfl (Rd.cells hS.1 0 rfl)) hq96_ ?_
   refine A_ready (i := 5) (rs := []) (by kernel_rfl) ?_
   refine AllR.cons ?_ AllR.nil
   have H105_ := ((Holds.bring (Holds.bring (Holds.bring (Holds.bring H95_ 8 rfl) 8 rfl) 8 rfl) 4 rfl) :)
   refine A_op (ls' := #[true, true, true, true, true, true, false]) rfl (by kernel_rfl) (T_invoke (al := [(vQ tb), (vA #[((Value.iface 222 (Value.string (strN (ints x.key))))), ((Value.iface 222 (Value.string (strN (ints x.end_)))))])]) (pre := [cl tb 185 [(vQ (rt sb W)), (vI .i64 cnt), (vQ sb)], tr sb sb W, clf sb 182 [(Value.nilIface), (Value.nilIface), (Value.nilIface), (Value.nilIface), (vP none), (vP none), (vP none), (vI .i64 0)]]) rfl (fun w => by kernel_rfl) (lcons rfl (lcons (congrArg (fun l => vA (List.toArray l)) (lcons (rfl : (Value.iface 222 (Value.string (strN (ints x.key)))) = ((Value.iface 222 (Value.string (strN (ints x.key)))))) (lcons (rfl : (Value.iface 222 (Value.string (strN (ints x.end_)))) = ((Value.iface 222 (Value.string (strN (ints x.end_)))))) rfl))) rfl)) cb155 (itFind R (List UInt8) AO tb sb cnt [(Value.nilIface), (Value.nilIface), (Value.nilIface), (Value.nilIface), (vP none), (vP none), (vP none), (vI .i64 0)] W 222 222 (Value.string (strN (ints x.key))) (Value.string (strN (ints x.end_))) x.key.data.toList x.end_.data.toList (hG.t.ok.1) (hG.t.s) ((by rw [strI]; exact av _)) ((by rw [strI]; exact av _))) H105_ ?_)
   rintro v97_ p109_ w106_ hq110_ S108_ H107_
   rcases hq110_ with ⟨rfl, rfl, he98_⟩ | ⟨C99_, n100_, a101_, b102_, rfl, rfl, he103_, he104_⟩
   ·skip
    have S111_ := Same.trans (Same.trans S92_ (Same.drew _)) S108_
    refine ⟨⟨Holds.rd H107_ 4 rfl, Holds.mprd H107_ 5 rfl, Holds.rd H107_ 6 rfl, Holds.mprd H107_ 7 rfl, Holds.rd H107_ 1 rfl, (Holds.ro_at H107_ 0 rfl)⟩, ?_⟩
    have hq116_ := And.intro (Holds.rd H107_ 4 rfl) (And.intro (Holds.mprd H107_ 5 rfl) (And.intro (Holds.rd H107_ 6 rfl) (And.intro (Holds.mprd H107_ 7 rfl) (And.intro (Holds.rd H107_ 1 rfl) ((Holds.ro_at H107_ 0 rfl))))))
    refine A_tk 6 (v := (vP none)) rfl (by kernel_rfl) (fun w hS => x_assign rfl) hq116_ ?_
    refine A_done (by kernel_rfl) ?_
    refine (X_then (hK94_ _ _ ?_))
    refine cR fun _ hK117_ => ?_
    refine sm (vP none) ?_
    refine sv (v := (vB false)) (by kernel_rfl) ?_
    refine wn (hK117_ _ _ ?_)
    refine C_condF rfl ?_
    refine C_skip (X_then (hK93_ _ _ ?_))
    refine cR fun _ hK118_ => ?_
    refine S_list (T_makeMap pn H107_ ?_)
    intro b119_ w120_ S122_ H121_
    have S123_ := Same.trans S111_ S122_
    refine sv (v := (Value.map (some b119_))) (x_assign rfl) ?_
    refine wn (hK118_ _ _ ?_)
    refine cR fun _ hK124_ => ?_
    refine sm (Value.map (some b119_)) ?_
    refine sm (vQ a) ?_
    have H126_ := ((Holds.bring H121_ 1 rfl) :)
    refine S_list (T_call (al := [(Value.map (some b119_)), (vQ a)]) (pre := [mp pn b119_ []]) rfl rfl cb81 (gsAdd R b119_ a [] (hal) ((fun p hp => by cases hp)) ((fun p hp => by cases hp))) H126_ ?_)
    rintro v125_ p130_ w127_ ⟨rfl, rfl⟩ S129_ H128_
    have S131_ := Same.trans S123_ S129_
    have H132_ := ((Holds.bring (Holds.bring H128_ 9 rfl) 2 rfl) :)
    have H133_ := Holds.set_new H132_
    have H134_ := H133_
    refine wn (hK124_ _ _ ?_)
    refine A_start (S := fun w => Rd b36_ [(Value.iface 222 (Value.string (strN (ints x.key)))), (Value.iface 222 (Value.string (strN (ints x.end_))))] w ∧ MpRd pn wb ((aggm PM) ++ [(a, vA #[])]) w ∧ Rd zb [(Value.map (some kb)), (Value.iface 183 (vQ tb)), (Value.map (some wb)), (Value.map (some ib))] w ∧ MpRd Value.string kb KM w ∧ Sub R (hp w)) (N := 8) foll rfl rfl ?_
    have H135_ := Holds.drew_ H134_
    have hq156_ := And.intro (Holds.rd H135_ 5 rfl) (And.intro (Holds.mprd H135_ 6 rfl) (And.intro (Holds.rd H135_ 7 rfl) (And.intro (Holds.mprd H135_ 8 rfl) ((Holds.ro_at H135_ 1 rfl)))))
    refine A_tk 0 (v := (vQ zb)) rfl (by kernel_rfl) (fun w hS => x_move rfl) hq156_ ?_
    refine A_tk 1 (v := (vQ zb)) rfl (by kernel_rfl) (fun w hS => by kernel_rfl) hq156_ ?_
    refine A_tk 2 (v := (vP (some ⟨zb, 1, none⟩))) rfl (by kernel_rfl) (fun w hS => by kernel_rfl) hq156_ ?_
    refine A_tk 3 (v := (Value.iface 183 (vQ tb))) rfl (by kernel_rfl) (fun w hS => x_load1 rfl underlying89 rfl (hS.2.2.1 1 (Value.iface 183 (vQ tb)) rfl)) hq156_ ?_
    refine A_tk 4 (v := (vA #[(Value.iface 222 (Value.string (strN (ints x.key)))), (Value.iface 222 (Value.string (strN (ints x.end_))))])) rfl (by kernel_rfl) (fun w hS => x_loadN (vs := [(Value.iface 222 (Value.string (strN (ints x.key)))), (Value.iface 222 (Value.string (strN (ints x.end_))))]) rfl underlying177 rfl z177 rfl (Rd.cells hS.1 0 rfl)) hq156_ ?_
    refine A_tk 5 (v := (Value.map (some b119_))) rfl (by kernel_rfl) (fun w hS => x_move rfl) hq156_ ?_
    refine A_tk 6 (v := (Value.iface 91 (Value.map (some b119_)))) rfl (by kernel_rfl) (fun w hS => by kernel_rfl) hq156_ ?_
    refine A_ready (i := 7) (rs := []) (by kernel_rfl) ?_
    refine AllR.cons ?_ AllR.nil
    have H169_ := ((Holds.bring (Holds.bring (Holds.bring (Holds.bring H135_ 4 rfl) 4 rfl) 4 rfl) 4 rfl) :)
    refine A_op (ls' := #[true, true, true, true, true, true, true, true]) rfl (by kernel_rfl) (T_invoke (al := [(vQ tb), (vA #[((Value.iface 222 (Value.string (strN (ints x.key))))), ((Value.iface 222 (Value.string (strN (ints x.end_)))))]), ((Value.iface 91 (Value.map (some b119_))))]) (pre := [cl tb 185 [(vQ (rt sb W)), (vI .i64 cnt), (vQ sb)], tr sb sb W, clf sb 182 [(Value.nilIface), (Value.nilIface), (Value.nilIface), (Value.nilIface), (vP none), (vP none), (vP none), (vI .i64 0)]]) rfl (fun w => by kernel_rfl) (lcons rfl (lcons (congrArg (fun l => vA (List.toArray l)) (lcons (rfl : (Value.iface 222 (Value.string (strN (ints x.key)))) = ((Value.iface 222 (Value.string (strN (ints x.key)))))) (lcons (rfl : (Value.iface 222 (Value.string (strN (ints x.end_)))) = ((Value.iface 222 (Value.string (strN (ints x.end_)))))) rfl))) (lcons (rfl : (Value.iface 91 (Value.map (some b119_))) = ((Value.iface 91 (Value.map (some b119_))))) rfl))) cb157 (itInsert R (List UInt8) AO tb sb cnt [(Value.nilIface), (Value.nilIface), (Value.nilIface), (Value.nilIface), (vP none), (vP none), (vP none), (vI .i64 0)] W 222 222 91 (Value.string (strN (ints x.key))) (Value.string (strN (ints x.end_))) (Value.map (some b119_)) x.key.data.toList x.end_.data.toList (hG.t.ok) ((by rw [strI]; exact av _)) ((by rw [strI]; exact av _)) (⟨by omega, by omega⟩) (hG.t.s)) H169_ ?_)
    rintro v157_ p173_ w170_ ⟨W158_, L1159_, L2160_, z161_, rfl, rfl, he162_, he163_, he164_, he165_, he166_, he167_, he168_⟩ S172_ H171_
    have S174_ := Same.trans (Same.trans S131_ (Same.drew _)) S172_
    refine ⟨⟨Holds.rd H171_ 5 rfl, Holds.mprd H171_ 6 rfl, Holds.rd H171_ 7 rfl, Holds.mprd H171_ 8 rfl, (Holds.ro_at H171_ 0 rfl)⟩, ?_⟩
    refine A_done (by kernel_rfl) ?_
    refine R_0 rfl ?_
    have H175_ : Holds w170_ (ro R :: cl tb 185 [(vQ (rt sb W158_)), (vI .i64 (cnt + 1)), (vQ sb)] :: tr sb sb W158_ :: clf sb 182 [(Value.nilIface), (Value.nilIface), (Value.nilIface), (Value.nilIface), (vP none), (vP none), (vP none), (vI .i64 0)] :: setsP ((List.map Prod.fst PM) ++ [a]) (b119_ :: S) :: cl b36_ 177 [(Value.iface 222 (Value.string (strN (ints x.key)))), (Value.iface 222 (Value.string (strN (ints x.end_))))] :: mp pn wb ((aggm PM) ++ [(a, vA #[])]) :: cl zb 97 [(Value.map (some kb)), (Value.iface 183 (vQ tb)), (Value.map (some wb)), (Value.map (some ib))] :: mp Value.string kb KM :: F) := (H171_)
    have H176_ := H175_; rw [← fst_snoc (x := x), ← agg_snoc (x := x)] at H176_
    have H177_ := Holds.pkF H176_ [0, 6, 6, 3, 0, 0, 0, 1] 1
    exact ⟨_, _, rfl, ⟨KM, (b119_ :: S), W158_, cnt + 1, rfl, rfl, (hG.addNew hw0 hx he162_ he163_ he164_ he165_ he166_), (cnt_ins he163_ he164_ hcn)⟩, S174_, H177_⟩
   ·skip
    have S112_ := Same.trans (Same.trans S92_ (Same.drew _)) S108_
    have f113_m : n100_.er ∈ ino W := by rw [← he103_, ino_plug]; simp [ino]
    obtain ⟨f113_b, f113_b_, f113_v⟩ := hG.t.v _ f113_m
    replace f113_v : n100_.v = _ := f113_v
    have H114_ : Holds w106_ (ro R :: cl tb 185 [(vQ (rt sb W)), (vI .i64 cnt), (vQ sb)] :: clf n100_.a 182 [n100_.b, n100_.e, n100_.v, n100_.mx, (vQ (rt sb a101_)), (vQ (rt sb b102_)), (vQ (pa sb C99_)), (vI .i64 n100_.c)] :: tr sb n100_.a a101_ :: tr sb n100_.a b102_ :: cx sb n100_.a C99_ :: clf sb 182 [(Value.nilIface), (Value.nilIface), (Value.nilIface), (Value.nilIface), (vP none), (vP none), (vP none), (vI .i64 0)] :: cl b36_ 177 [(Value.iface 222 (Value.string (strN (ints x.key)))), (Value.iface 222 (Value.string (strN (ints x.end_))))] :: mp pn wb ((aggm PM) ++ [(a, vA #[])]) :: cl zb 97 [(Value.map (some kb)), (Value.iface 183 (vQ tb)), (Value.map (some wb)), (Value.map (some ib))] :: mp Value.string kb KM :: setsP (List.map Prod.fst PM) S :: F) := (H107_)
    have H115_ := H114_; rw [f113_v] at H115_
    refine ⟨⟨Holds.rd H115_ 7 rfl, Holds.mprd H115_ 8 rfl, Holds.rd H115_ 9 rfl, Holds.mprd H115_ 10 rfl, Holds.rd H115_ 1 rfl, (Holds.ro_at H115_ 0 rfl)⟩, ?_⟩
    have hq178_ := And.intro (Holds.rd H115_ 7 rfl) (And.intro (Holds.mprd H115_ 8 rfl) (And.intro (Holds.rd H115_ 9 rfl) (And.intro (Holds.mprd H115_ 10 rfl) (And.intro (Holds.rd H115_ 1 rfl) ((Holds.ro_at H115_ 0 rfl))))))
    refine A_tk 6 (v := (vQ n100_.a)) rfl (by kernel_rfl) (fun w hS => x_assign rfl) hq178_ ?_
    refine A_done (by kernel_rfl) ?_
    refine (X_then (hK94_ _ _ ?_))
    refine cR fun _ hK179_ => ?_
    refine sm (vQ n100_.a) ?_
    refine sv (v := (vB true)) (by kernel_rfl) ?_
    refine wn (hK179_ _ _ ?_)
    refine C_condT rfl ?_
    refine cR fun _ hK180_ => ?_
    refine sm (vQ n100_.a) ?_
    refine sv (v := (vQ n100_.a)) (by kernel_rfl) ?_
    refine sv (v := (vP (some ⟨n100_.a, 2, none⟩))) (by kernel_rfl) ?_
    refine sv (v := (Value.iface 91 (Value.map (some f113_b)))) (x_load1 rfl underlying20 rfl ((Holds.rdf H115_ 2 rfl) 2 (Value.iface 91 (Value.map (some f113_b))) rfl)) ?_
    refine sv (v := (Value.map (some f113_b))) (by kernel_rfl) ?_
    refine sm (vQ a) ?_
    have H181_ := ((Holds.bring H115_ 11 rfl) :)
    obtain ⟨m182_, hm183_, H184_⟩ := Holds.set_out H181_ f113_b_
    have H185_ := H184_
    have H187_ := ((Holds.bring H185_ 2 rfl) :)
    refine S_list (T_call (al := [(Value.map (some f113_b)), (vQ a)]) (pre := [mp pn f113_b m182_]) rfl rfl cb81 (gsAdd R f113_b a m182_ (hal) ((fun p hp => by obtain ⟨q, hq, e⟩ := List.mem_map.1 (hm183_.1 p hp); rw [← e]; exact (hG.w q hq).alv)) ((fun p hp e => hf (e ▸ hm183_.1 p hp)))) H187_ ?_)
    rintro v186_ p191_ w188_ ⟨rfl, rfl⟩ S190_ H189_
    have S192_ := Same.trans S112_ S190_
    have H193_ := ((Holds.bring (Holds.bring H189_ 2 rfl) 2 rfl) :)
    have H194_ := Holds.set_put H193_ hm183_ hf
    have H195_ := H194_
    refine wn (hK180_ _ _ ?_)
    refine C_ret (X_thenR ?_)
    refine R_0r rfl ?_
    have H196_ : Holds w188_ (setsP ((List.map Prod.fst PM) ++ [a]) S :: ro R :: cl tb 185 [(vQ (rt sb W)), (vI .i64 cnt), (vQ sb)] :: clf n100_.a 182 [n100_.b, n100_.e, (Value.iface 91 (Value.map (some f113_b))), n100_.mx, (vQ (rt sb a101_)), (vQ (rt sb b102_)), (vQ (pa sb C99_)), (vI .i64 n100_.c)] :: tr sb n100_.a a101_ :: tr sb n100_.a b102_ :: cx sb n100_.a C99_ :: clf sb 182 [(Value.nilIface), (Value.nilIface), (Value.nilIface), (Value.nilIface), (vP none), (vP none), (vP none), (vI .i64 0)] :: cl b36_ 177 [(Value.iface 222 (Value.string (strN (ints x.key)))), (Value.iface 222 (Value.string (strN (ints x.end_))))] :: mp pn wb ((aggm PM) ++ [(a, vA #[])]) :: cl zb 97 [(Value.map (some kb)), (Value.iface 183 (vQ tb)), (Value.map (some wb)), (Value.map (some ib))] :: mp Value.string kb KM :: F) := (H195_)
    have H197_ := H196_; rw [← f113_v] at H197_
    have H198_ := ((Holds.bring (Holds.bring (Holds.bring H197_ 5 rfl) 5 rfl) 5 rfl) :)
    have H199_ := Holds.nd_tr (n := n100_) (a := a101_) (b := b102_) H198_
    have H200_ := H199_
    have H201_ := ((Holds.bring (Holds.bring H200_ 4 rfl) 1 rfl) :)
    have H202_ := Holds.plug_in (C := C99_) (t := (Tr.nd n100_ a101_ b102_)) H201_
    have H203_ := H202_; rw [he103_] at H203_
    have H204_ := H203_
    have H205_ : Holds w188_ (tr sb sb W :: setsP ((List.map Prod.fst PM) ++ [a]) S :: ro R :: cl tb 185 [(vQ (rt sb W)), (vI .i64 cnt), (vQ sb)] :: clf sb 182 [(Value.nilIface), (Value.nilIface), (Value.nilIface), (Value.nilIface), (vP none), (vP none), (vP none), (vI .i64 0)] :: cl b36_ 177 [(Value.iface 222 (Value.string (strN (ints x.key)))), (Value.iface 222 (Value.string (strN (ints x.end_))))] :: mp pn wb ((aggm PM) ++ [(a, vA #[])]) :: cl zb 97 [(Value.map (some kb)), (Value.iface 183 (vQ tb)), (Value.map (some wb)), (Value.map (some ib))] :: mp Value.string kb KM :: F) := (H204_)
    have H206_ := H205_; rw [← fst_snoc (x := x), ← agg_snoc (x := x)] at H206_
    have H207_ := Holds.pkF H206_ [2, 6, 6, 1, 1, 0, 0, 1] 1
    exact ⟨_, _, rfl, ⟨KM, S, W, cnt, rfl, rfl, (hG.addSame hw0 hx f113_m he104_), (⟨hcn.1, by rw [List.length_append]; omega⟩)⟩, S192_, H207_⟩
  intro hJ80
  refine A_cut #[true, true, true, true, true, true, true, true, true, true, true, false, false] 2 (fun a__ w1__ => ∃ h : Env, a__ = mkA 62 (upd (upd (upd h 0 (vQ zb)) 1 (vQ a)) 34 (vA #[(Value.iface 222 (Value.string (strN (ints x.key)))), (Value.iface 222 (Value.string (strN (ints x.end_))))])) [] ∧ Holds w1__ (ro R :: mp pn wb ((aggm PM) ++ [(a, vA #[])]) :: cl zb 97 [(Value.map (some kb)), (Value.iface 183 (vQ tb)), (Value.map (some wb)), (Value.map (some ib))] :: mp Value.string kb KM :: setsP (List.map Prod.fst PM) S :: cl tb 185 [(vQ (rt sb W)), (vI .i64 cnt), (vQ sb)] :: tr sb sb W :: clf sb 182 [(Value.nilIface), (Value.nilIface), (Value.nilIface), (Value.nilIface), (vP none), (vP none), (vP none), (vI .i64 0)] :: F) ∧ Same w w1__) ?_ ?_
  ·rintro _ w208_ ⟨h, rfl, H209_, S210_⟩
   refine A_ready (i := 11) (rs := []) (by kernel_rfl) ?_
   refine AllR.cons ?_ AllR.nil
   refine A_op (ls' := #[true, true, true, true, true, true, true, true, true, true, true, true, false]) rfl (by kernel_rfl) (T_alloc z177 H209_ ?_)
   intro b211_ w212_ S214_ H213_
   have S215_ := Same.trans S210_ S214_
   refine ⟨⟨Holds.mprd H213_ 2 rfl, Holds.rd H213_ 3 rfl, Holds.mprd H213_ 4 rfl, Holds.rd H213_ 6 rfl, Holds.tr_rd H213_ 7 rfl 8 rfl, (And.intro (Holds.rdf H213_ 8 rfl) (Holds.blk H213_ 8 rfl)), (Holds.ro_at H213_ 1 rfl)⟩, ?_⟩
   exact hJ80 _ _ ⟨b211_, _, congrArg (fun e => mkA 62 e []) (ch (ch (ch (ch rfl rfl) rfl) rfl) rfl), H213_, S215_⟩
  intro hJ79
  refine A_cut #[true, true, true, true, true, true, true, true, true, true, false, true, false] 2 (fun a__ w1__ => ∃ b45_ : Nat, ∃ h : Env, a__ = mkA 62 (upd (upd (upd (upd (upd h 0 (vQ zb)) 1 (vQ a)) 4 (vQ b45_)) 28 (Value.string (strN (ints x.key)))) 33 (Value.string (strN (ints x.end_)))) [] ∧ Holds w1__ (cl b45_ 177 [(Value.nilIface), (Value.nilIface)] :: ro R :: mp pn wb ((aggm PM) ++ [(a, vA #[])]) :: cl zb 97 [(Value.map (some kb)), (Value.iface 183 (vQ tb)), (Value.map (some wb)), (Value.map (some ib))] :: mp Value.string kb KM :: setsP (List.map Prod.fst PM) S :: cl tb 185 [(vQ (rt sb W)), (vI .i64 cnt), (vQ sb)] :: tr sb sb W :: clf sb 182 [(Value.nilIface), (Value.nilIface), (Value.nilIface), (Value.nilIface), (vP none), (vP none), (vP none), (vI .i64 0)] :: F) ∧ Same w w1__) ?_ ?_
  ·rintro _ w216_ ⟨b45_, h, rfl, H217_, S218_⟩
   refine A_ready (i := 10) (rs := []) (by kernel_rfl) ?_
   refine AllR.cons ?_ AllR.nil
   have H220_ := ((Holds.bring H217_ 1 rfl) :)
   refine A_op (ls' := #[true, true, true, true, true, true, true, true, true, true, true, true, false]) rfl (by kernel_rfl) (T_call (al := [(Value.string (strN (ints x.key))), (Value.string (strN (ints x.end_)))]) (pre := []) rfl rfl cb83 (grNewIv R (strN (ints x.key)) (strN (ints x.end_))) H220_ ?_)
   rintro v219_ p224_ w221_ ⟨rfl, rfl⟩ S223_ H222_
   have S225_ := Same.trans S218_ S223_
   refine ⟨⟨Holds.mprd H222_ 2 rfl, Holds.rd H222_ 3 rfl, Holds.mprd H222_ 4 rfl, Holds.rd H222_ 6 rfl, Holds.tr_rd H222_ 7 rfl 8 rfl, (And.intro (Holds.rdf H222_ 8 rfl) (Holds.blk H222_ 8 rfl)), (Holds.ro_at H222_ 0 rfl)⟩, ?_⟩
   have H226_ := Holds.pkF H222_ [1, 0, 0, 0, 0, 0, 0, 0, 0] 0
   exact hJ80 _ _ ⟨b45_, _, congrArg (fun e => mkA 62 e []) (ch (ch (ch (ch rfl rfl) rfl) rfl) rfl), H226_, S225_⟩
  intro hJ81
  refine A_cut #[true, true, true, true, true, true, true, true, true, true, false, false, false] 3 (fun a__ w1__ => ∃ h : Env, a__ = mkA 62 (upd (upd (upd (upd h 0 (vQ zb)) 1 (vQ a)) 28 (Value.string (strN (ints x.key)))) 33 (Value.string (strN (ints x.end_)))) [] ∧ Holds w1__ (ro R :: mp pn wb ((aggm PM) ++ [(a, vA #[])]) :: cl zb 97 [(Value.map (some kb)), (Value.iface 183 (vQ tb)), (Value.map (some wb)), (Value.map (some ib))] :: mp Value.string kb KM :: setsP (List.map Prod.fst PM) S :: cl tb 185 [(vQ (rt sb W)), (vI .i64 cnt), (vQ sb)] :: tr sb sb W :: clf sb 182 [(Value.nilIface), (Value.nilIface), (Value.nilIface), (Value.nilIface), (vP none), (vP none), (vP none), (vI .i64 0)] :: F) ∧ Same w w1__) ?_ ?_
  ·rintro _ w227_ ⟨h, rfl, H228_, S229_⟩
   refine A_ready (i := 10) (rs := [11]) (by kernel_rfl) ?_
   refine AllR.cons ?_ ?_
   ·skip
    refine A_op (ls' := #[true, true, true, true, true, true, true, true, true, true, true, false, false]) rfl (by kernel_rfl) (T_call (al := [(Value.string (strN (ints x.key))), (Value.string (strN (ints x.end_)))]) (pre := []) rfl rfl cb83 (grNewIv R (strN (ints x.key)) (strN (ints x.end_))) H228_ ?_)
    rintro v230_ p234_ w231_ ⟨rfl, rfl⟩ S233_ H232_
    have S235_ := Same.trans S229_ S233_
    refine ⟨⟨Holds.mprd H232_ 1 rfl, Holds.rd H232_ 2 rfl, Holds.mprd H232_ 3 rfl, Holds.rd H232_ 5 rfl, Holds.tr_rd H232_ 6 rfl 7 rfl, (And.intro (Holds.rdf H232_ 7 rfl) (Holds.blk H232_ 7 rfl)), (Holds.ro_at H232_ 0 rfl)⟩, ?_⟩
    exact hJ79 _ _ ⟨_, congrArg (fun e => mkA 62 e []) (ch (ch (ch rfl rfl) rfl) rfl), H232_, S235_⟩
   refine AllR.cons ?_ AllR.nil
   refine A_op (ls' := #[true, true, true, true, true, true, true, true, true, true, false, true, false]) rfl (by kernel_rfl) (T_alloc z177 H228_ ?_)
   intro b236_ w237_ S239_ H238_
   have S240_ := Same.trans S229_ S239_
   refine ⟨⟨Holds.mprd H238_ 2 rfl, Holds.rd H238_ 3 rfl, Holds.mprd H238_ 4 rfl, Holds.rd H238_ 6 rfl, Holds.tr_rd H238_ 7 rfl 8 rfl, (And.intro (Holds.rdf H238_ 8 rfl) (Holds.blk H238_ 8 rfl)), (Holds.ro_at H238_ 1 rfl)⟩, ?_⟩
   exact hJ81 _ _ ⟨b236_, _, congrArg (fun e => mkA 62 e []) (ch (ch (ch (ch (ch rfl rfl) rfl) rfl) rfl) rfl), H238_, S240_⟩
  intro hJ78
  refine A_cut #[true, true, true, true, true, true, true, true, false, false, false, true, false] 4 (fun a__ w1__ => ∃ b57_ : Nat, ∃ h : Env, a__ = mkA 62 (upd (upd (upd (upd (upd h 0 (vQ zb)) 1 (vQ a)) 4 (vQ b57_)) 28 (Value.string (strN (ints x.key)))) 31 (vP (some ⟨a, 1, none⟩))) [] ∧ Holds w1__ (cl b57_ 177 [(Value.nilIface), (Value.nilIface)] :: ro R :: mp pn wb ((aggm PM) ++ [(a, vA #[])]) :: cl zb 97 [(Value.map (some kb)), (Value.iface 183 (vQ tb)), (Value.map (some wb)), (Value.map (some ib))] :: mp Value.string kb KM :: setsP (List.map Prod.fst PM) S :: cl tb 185 [(vQ (rt sb W)), (vI .i64 cnt), (vQ sb)] :: tr sb sb W :: clf sb 182 [(Value.nilIface), (Value.nilIface), (Value.nilIface), (Value.nilIface), (vP none), (vP none), (vP none), (vI .i64 0)] :: F) ∧ Same w w1__) ?_ ?_
  ·rintro _ w241_ ⟨b57_, h, rfl, H242_, S243_⟩
   refine A_ready (i := 8) (rs := []) (by kernel_rfl) ?_
   refine AllR.cons ?_ AllR.nil
   refine A_op (ls' := #[true, true, true, true, true, true, true, true, true, false, false, true, false]) rfl (by kernel_rfl) (T_val (v := (vS (some ea) em ec)) (x_load1 rfl underlying101 rfl (RC.cell hrc (Holds.ro_at H242_ 1 rfl) (j := 1) (u := (vS (some ea) em ec)) (rfl))) ?_)
   refine ⟨⟨Holds.mprd H242_ 2 rfl, Holds.rd H242_ 3 rfl, Holds.mprd H242_ 4 rfl, Holds.rd H242_ 6 rfl, Holds.tr_rd H242_ 7 rfl 8 rfl, (And.intro (Holds.rdf H242_ 8 rfl) (Holds.blk H242_ 8 rfl)), (Holds.ro_at H242_ 1 rfl)⟩, ?_⟩
   have hq244_ := And.intro (Holds.mprd H242_ 2 rfl) (And.intro (Holds.rd H242_ 3 rfl) (And.intro (Holds.mprd H242_ 4 rfl) (And.intro (Holds.rd H242_ 6 rfl) (And.intro (Holds.tr_rd H242_ 7 rfl 8 rfl) (And.intro ((And.intro (Holds.rdf H242_ 8 rfl) (Holds.blk H242_ 8 rfl))) ((Holds.ro_at H242_ 1 rfl)))))))
   refine A_tk 9 (v := (Value.string (strN (ints x.end_)))) rfl (by kernel_rfl) (fun w hS => x_b2sRS rfl hes hS.2.2.2.2.2.2 underlying101 underlying5 underlying9) hq244_ ?_
   exact hJ81 _ _ ⟨b57_, _, congrArg (fun e => mkA 62 e []) (ch (ch (ch (ch (ch rfl rfl) rfl) rfl) rfl) rfl), H242_, S243_⟩
  intro hJ82
  refine A_cut #[true, true, true, false, false, true, true, true, true, true, false, true, false] 4 (fun a__ w1__ => ∃ b63_ : Nat, ∃ h : Env, a__ = mkA 62 (upd (upd (upd (upd (upd h 0 (vQ zb)) 1 (vQ a)) 4 (vQ b63_)) 26 (vQ a)) 33 (Value.string (strN (ints x.end_)))) [] ∧ Holds w1__ (cl b63_ 177 [(Value.nilIface), (Value.nilIface)] :: ro R :: mp pn wb ((aggm PM) ++ [(a, vA #[])]) :: cl zb 97 [(Value.map (some kb)), (Value.iface 183 (vQ tb)), (Value.map (some wb)), (Value.map (some ib))] :: mp Value.string kb KM :: setsP (List.map Prod.fst PM) S :: cl tb 185 [(vQ (rt sb W)), (vI .i64 cnt), (vQ sb)] :: tr sb sb W :: clf sb 182 [(Value.nilIface), (Value.nilIface), (Value.nilIface), (Value.nilIface), (vP none), (vP none), (vP none), (vI .i64 0)] :: F) ∧ Same w w1__) ?_ ?_
  ·rintro _ w245_ ⟨b63_, h, rfl, H246_, S247_⟩
   refine A_ready (i := 3) (rs := []) (by kernel_rfl) ?_
   refine AllR.cons ?_ AllR.nil
   refine A_op (ls' := #[true, true, true, true, false, true, true, true, true, true, false, true, false]) rfl (by kernel_rfl) (T_val (v := kv) (x_load1 rfl underlying101 rfl (RC.cell hrc (Holds.ro_at H246_ 1 rfl) (j := 0) (u := kv) (rfl))) ?_)
   refine ⟨⟨Holds.mprd H246_ 2 rfl, Holds.rd H246_ 3 rfl, Holds.mprd H246_ 4 rfl, Holds.rd H246_ 6 rfl, Holds.tr_rd H246_ 7 rfl 8 rfl, (And.intro (Holds.rdf H246_ 8 rfl) (Holds.blk H246_ 8 rfl)), (Holds.ro_at H246_ 1 rfl)⟩, ?_⟩
   have hq248_ := And.intro (Holds.mprd H246_ 2 rfl) (And.intro (Holds.rd H246_ 3 rfl) (And.intro (Holds.mprd H246_ 4 rfl) (And.intro (Holds.rd H246_ 6 rfl) (And.intro (Holds.tr_rd H246_ 7 rfl 8 rfl) (And.intro ((And.intro (Holds.rdf H246_ 8 rfl) (Holds.blk H246_ 8 rfl))) ((Holds.ro_at H246_ 1 rfl)))))))
   refine A_tk 4 (v := (Value.string (strN (ints x.key)))) rfl (by kernel_rfl) (fun w hS => x_b2sRS rfl hkv hS.2.2.2.2.2.2 underlying101 underlying5 underlying9) hq248_ ?_
   exact hJ81 _ _ ⟨b63_, _, congrArg (fun e => mkA 62 e []) (ch (ch (ch (ch (ch rfl rfl) rfl) rfl) rfl) rfl), H246_, S247_⟩
  intro hJ84
  refine A_cut #[true, true, true, true, true, true, true, true, false, false, false, false, false] 5 (fun a__ w1__ => ∃ h : Env, a__ = mkA 62 (upd (upd (upd (upd h 0 (vQ zb)) 1 (vQ a)) 28 (Value.string (strN (ints x.key)))) 31 (vP (some ⟨a, 1, none⟩))) [] ∧ Holds w1__ (ro R :: mp pn wb ((aggm PM) ++ [(a, vA #[])]) :: cl zb 97 [(Value.map (some kb)), (Value.iface 183 (vQ tb)), (Value.map (some wb)), (Value.map (some ib))] :: mp Value.string kb KM :: setsP (List.map Prod.fst PM) S :: cl tb 185 [(vQ (rt sb W)), (vI .i64 cnt), (vQ sb)] :: tr sb sb W :: clf sb 182 [(Value.nilIface), (Value.nilIface), (Value.nilIface), (Value.nilIface), (vP none), (vP none), (vP none), (vI .i64 0)] :: F) ∧ Same w w1__) ?_ ?_
  ·rintro _ w249_ ⟨h, rfl, H250_, S251_⟩
   refine A_ready (i := 8) (rs := [11]) (by kernel_rfl) ?_
   refine AllR.cons ?_ ?_
   ·skip
    refine A_op (ls' := #[true, true, true, true, true, true, true, true, true, false, false, false, false]) rfl (by kernel_rfl) (T_val (v := (vS (some ea) em ec)) (x_load1 rfl underlying101 rfl (RC.cell hrc (Holds.ro_at H250_ 0 rfl) (j := 1) (u := (vS (some ea) em ec)) (rfl))) ?_)
    refine ⟨⟨Holds.mprd H250_ 1 rfl, Holds.rd H250_ 2 rfl, Holds.mprd H250_ 3 rfl, Holds.rd H250_ 5 rfl, Holds.tr_rd H250_ 6 rfl 7 rfl, (And.intro (Holds.rdf H250_ 7 rfl) (Holds.blk H250_ 7 rfl)), (Holds.ro_at H250_ 0 rfl)⟩, ?_⟩
    have hq252_ := And.intro (Holds.mprd H250_ 1 rfl) (And.intro (Holds.rd H250_ 2 rfl) (And.intro (Holds.mprd H250_ 3 rfl) (And.intro (Holds.rd H250_ 5 rfl) (And.intro (Holds.tr_rd H250_ 6 rfl 7 rfl) (And.intro ((And.intro (Holds.rdf H250_ 7 rfl) (Holds.blk H250_ 7 rfl))) ((Holds.ro_at H250_ 0 rfl)))))))
    refine A_tk 9 (v := (Value.string (strN (ints x.end_)))) rfl (by kernel_rfl) (fun w hS => x_b2sRS rfl hes hS.2.2.2.2.2.2 underlying101 underlying5 underlying9) hq252_ ?_
    exact hJ78 _ _ ⟨_, congrArg (fun e => mkA 62 e []) (ch (ch (ch (ch rfl rfl) rfl) rfl) rfl), H250_, S251_⟩
   refine AllR.cons ?_ AllR.nil
   refine A_op (ls' := #[true, true, true, true, true, true, true, true, false, false, false, true, false]) rfl (by kernel_rfl) (T_alloc z177 H250_ ?_)
   intro b253_ w254_ S256_ H255_
   have S257_ := Same.trans S251_ S256_
   refine ⟨⟨Holds.mprd H255_ 2 rfl, Holds.rd H255_ 3 rfl, Holds.mprd H255_ 4 rfl, Holds.rd H255_ 6 rfl, Holds.tr_rd H255_ 7 rfl 8 rfl, (And.intro (Holds.rdf H255_ 8 rfl) (Holds.blk H255_ 8 rfl)), (Holds.ro_at H255_ 1 rfl)⟩, ?_⟩
   exact hJ82 _ _ ⟨b253_, _, congrArg (fun e => mkA 62 e []) (ch (ch (ch (ch (ch rfl rfl) rfl) rfl) rfl) rfl), H255_, S257_⟩
  intro hJ77
  refine A_cut #[true, true, true, false, false, true, true, true, true, true, false, false, false] 5 (fun a__ w1__ => ∃ h : Env, a__ = mkA 62 (upd (upd (upd (upd h 0 (vQ zb)) 1 (vQ a)) 26 (vQ a)) 33 (Value.string (strN (ints x.end_)))) [] ∧ Holds w1__ (ro R :: mp pn wb ((aggm PM) ++ [(a, vA #[])]) :: cl zb 97 [(Value.map (some kb)), (Value.iface 183 (vQ tb)), (Value.map (some wb)), (Value.map (some ib))] :: mp Value.string kb KM :: setsP (List.map Prod.fst PM) S :: cl tb 185 [(vQ (rt sb W)), (vI .i64 cnt), (vQ sb)] :: tr sb sb W :: clf sb 182 [(Value.nilIface), (Value.nilIface), (Value.nilIface), (Value.nilIface), (vP none), (vP none), (vP none), (vI .i64 0)] :: F) ∧ Same w w1__) ?_ ?_
  ·rintro _ w258_ ⟨h, rfl, H259_, S260_⟩
   refine A_ready (i := 3) (rs := [11]) (by kernel_rfl) ?_
   refine AllR.cons ?_ ?_
   ·skip
    refine A_op (ls' := #[true, true, true, true, false, true, true, true, true, true, false, false, false]) rfl (by kernel_rfl) (T_val (v := kv) (x_load1 rfl underlying101 rfl (RC.cell hrc (Holds.ro_at H259_ 0 rfl) (j := 0) (u := kv) (rfl))) ?_)
    refine ⟨⟨Holds.mprd H259_ 1 rfl, Holds.rd H259_ 2 rfl, Holds.mprd H259_ 3 rfl, Holds.rd H259_ 5 rfl, Holds.tr_rd H259_ 6 rfl 7 rfl, (And.intro (Holds.rdf H259_ 7 rfl) (Holds.blk H259_ 7 rfl)), (Holds.ro_at H259_ 0 rfl)⟩, ?_⟩
    have hq261_ := And.intro (Holds.mprd H259_ 1 rfl) (And.intro (Holds.rd H259_ 2 rfl) (And.intro (Holds.mprd H259_ 3 rfl) (And.intro (Holds.rd H259_ 5 rfl) (And.intro (Holds.tr_rd H259_ 6 rfl 7 rfl) (And.intro ((And.intro (Holds.rdf H259_ 7 rfl) (Holds.blk H259_ 7 rfl))) ((Holds.ro_at H259_ 0 rfl)))))))
    refine A_tk 4 (v := (Value.string (strN (ints x.key)))) rfl (by kernel_rfl) (fun w hS => x_b2sRS rfl hkv hS.2.2.2.2.2.2 underlying101 underlying5 underlying9) hq261_ ?_
    exact hJ78 _ _ ⟨_, congrArg (fun e => mkA 62 e []) (ch (ch (ch (ch rfl rfl) rfl) rfl) rfl), H259_, S260_⟩
   refine AllR.cons ?_ AllR.nil
   refine A_op (ls' := #[true, true, true, false, false, true, true, true, true, true, false, true, false]) rfl (by kernel_rfl) (T_alloc z177 H259_ ?_)
   intro b262_ w263_ S265_ H264_
   have S266_ := Same.trans S260_ S265_
   refine ⟨⟨Holds.mprd H264_ 2 rfl, Holds.rd H264_ 3 rfl, Holds.mprd H264_ 4 rfl, Holds.rd H264_ 6 rfl, Holds.tr_rd H264_ 7 rfl 8 rfl, (And.intro (Holds.rdf H264_ 8 rfl) (Holds.blk H264_ 8 rfl)), (Holds.ro_at H264_ 1 rfl)⟩, ?_⟩
   exact hJ84 _ _ ⟨b262_, _, congrArg (fun e => mkA 62 e []) (ch (ch (ch (ch (ch rfl rfl) rfl) rfl) rfl) rfl), H264_, S266_⟩
  intro hJ83
  refine A_cut #[true, true, true, false, false, true, true, true, false, false, false, true, false] 6 (fun a__ w1__ => ∃ b69_ : Nat, ∃ h : Env, a__ = mkA 62 (upd (upd (upd (upd (upd h 0 (vQ zb)) 1 (vQ a)) 4 (vQ b69_)) 26 (vQ a)) 31 (vP (some ⟨a, 1, none⟩))) [] ∧ Holds w1__ (cl b69_ 177 [(Value.nilIface), (Value.nilIface)] :: ro R :: mp pn wb ((aggm PM) ++ [(a, vA #[])]) :: cl zb 97 [(Value.map (some kb)), (Value.iface 183 (vQ tb)), (Value.map (some wb)), (Value.map (some ib))] :: mp Value.string kb KM :: setsP (List.map Prod.fst PM) S :: cl tb 185 [(vQ (rt sb W)), (vI .i64 cnt), (vQ sb)] :: tr sb sb W :: clf sb 182 [(Value.nilIface), (Value.nilIface), (Value.nilIface), (Value.nilIface), (vP none), (vP none), (vP none), (vI .i64 0)] :: F) ∧ Same w w1__) ?_ ?_
  ·rintro _ w267_ ⟨b69_, h, rfl, H268_, S269_⟩
   refine A_ready (i := 3) (rs := [8]) (by kernel_rfl) ?_
   refine AllR.cons ?_ ?_
   ·skip
    refine A_op (ls' := #[true, true, true, true, false, true, true, true, false, false, false, true, false]) rfl (by kernel_rfl) (T_val (v := kv) (x_load1 rfl underlying101 rfl (RC.cell hrc (Holds.ro_at H268_ 1 rfl) (j := 0) (u := kv) (rfl))) ?_)
    refine ⟨⟨Holds.mprd H268_ 2 rfl, Holds.rd H268_ 3 rfl, Holds.mprd H268_ 4 rfl, Holds.rd H268_ 6 rfl, Holds.tr_rd H268_ 7 rfl 8 rfl, (And.intro (Holds.rdf H268_ 8 rfl) (Holds.blk H268_ 8 rfl)), (Holds.ro_at H268_ 1 rfl)⟩, ?_⟩
    have hq270_ := And.intro (Holds.mprd H268_ 2 rfl) (And.intro (Holds.rd H268_ 3 rfl) (And.intro (Holds.mprd H268_ 4 rfl) (And.intro (Holds.rd H268_ 6 rfl) (And.intro (Holds.tr_rd H268_ 7 rfl 8 rfl) (And.intro ((And.intro (Holds.rdf H268_ 8 rfl) (Holds.blk H268_ 8 rfl))) ((Holds.ro_at H268_ 1 rfl)))))))
    refine A_tk 4 (v := (Value.string (strN (ints x.key)))) rfl (by kernel_rfl) (fun w hS => x_b2sRS rfl hkv hS.2.2.2.2.2.2 underlying101 underlying5 underlying9) hq270_ ?_
    exact hJ82 _ _ ⟨b69_, _, congrArg (fun e => mkA 62 e []) (ch (ch (ch (ch (ch rfl rfl) rfl) rfl) rfl) rfl), H268_, S269_⟩
   refine AllR.cons ?_ AllR.nil
   refine A_op (ls' := #[true, true, true, false, false, true, true, true, true, false, false, true, false]) rfl (by kernel_rfl) (T_val (v := (vS (some ea) em ec)) (x_load1 rfl underlying101 rfl (RC.cell hrc (Holds.ro_at H268_ 1 rfl) (j := 1) (u := (vS (some ea) em ec)) (rfl))) ?_)
   refine ⟨⟨Holds.mprd H268_ 2 rfl, Holds.rd H268_ 3 rfl, Holds.mprd H268_ 4 rfl, Holds.rd H268_ 6 rfl, Holds.tr_rd H268_ 7 rfl 8 rfl, (And.intro (Holds.rdf H268_ 8 rfl) (Holds.blk H268_ 8 rfl)), (Holds.ro_at H268_ 1 rfl)⟩, ?_⟩
   have hq271_ := And.intro (Holds.mprd H268_ 2 rfl) (And.intro (Holds.rd H268_ 3 rfl) (And.intro (Holds.mprd H268_ 4 rfl) (And.intro (Holds.rd H268_ 6 rfl) (And.intro (Holds.tr_rd H268_ 7 rfl 8 rfl) (And.intro ((And.intro (Holds.rdf H268_ 8 rfl) (Holds.blk H268_ 8 rfl))) ((Holds.ro_at H268_ 1 rfl)))))))
   refine A_tk 9 (v := (Value.string (strN (ints x.end_)))) rfl (by kernel_rfl) (fun w hS => x_b2sRS rfl hes hS.2.2.2.2.2.2 underlying101 underlying5 underlying9) hq271_ ?_
   exact hJ84 _ _ ⟨b69_, _, congrArg (fun e => mkA 62 e []) (ch (ch (ch (ch (ch rfl rfl) rfl) rfl) rfl) rfl), H268_, S269_⟩
  intro hJ85
  have hq272_ := And.intro (Holds.mprd H28_ 1 rfl) (And.intro (Holds.rd H28_ 2 rfl) (And.intro (Holds.mprd H28_ 3 rfl) (And.intro (Holds.rd H28_ 5 rfl) (And.intro (Holds.tr_rd H28_ 6 rfl 7 rfl) (And.intro ((And.intro (Holds.rdf H28_ 7 rfl) (Holds.blk H28_ 7 rfl))) ((Holds.ro_at H28_ 0 rfl)))))))
  refine A_tk 0 (v := (vQ a)) rfl (by kernel_rfl) (fun w hS => x_move rfl) hq272_ ?_
  refine A_tk 1 (v := (vQ a)) rfl (by kernel_rfl) (fun w hS => by kernel_rfl) hq272_ ?_
  refine A_tk 2 (v := (vQ a)) rfl (by kernel_rfl) (fun w hS => by kernel_rfl) hq272_ ?_
  refine A_tk 5 (v := (vQ a)) rfl (by kernel_rfl) (fun w hS => x_move rfl) hq272_ ?_
  refine A_tk 6 (v := (vQ a)) rfl (by kernel_rfl) (fun w hS => by kernel_rfl) hq272_ ?_
  refine A_tk 7 (v := (vP (some ⟨a, 1, none⟩))) rfl (by kernel_rfl) (fun w hS => by kernel_rfl) hq272_ ?_
  refine A_ready (i := 3) (rs := [8, 11]) (by kernel_rfl) ?_
  refine AllR.cons ?_ ?_
  ·skip
   refine A_op (ls' := #[true, true, true, true, false, true, true, true, false, false, false, false, false]) rfl (by kernel_rfl) (T_val (v := kv) (x_load1 rfl underlying101 rfl (RC.cell hrc (Holds.ro_at H28_ 0 rfl) (j := 0) (u := kv) (rfl))) ?_)
   refine ⟨⟨Holds.mprd H28_ 1 rfl, Holds.rd H28_ 2 rfl, Holds.mprd H28_ 3 rfl, Holds.rd H28_ 5 rfl, Holds.tr_rd H28_ 6 rfl 7 rfl, (And.intro (Holds.rdf H28_ 7 rfl) (Holds.blk H28_ 7 rfl)), (Holds.ro_at H28_ 0 rfl)⟩, ?_⟩
   refine A_tk 4 (v := (Value.string (strN (ints x.key)))) rfl (by kernel_rfl) (fun w hS => x_b2sRS rfl hkv hS.2.2.2.2.2.2 underlying101 underlying5 underlying9) hq272_ ?_
   exact hJ77 _ _ ⟨_, congrArg (fun e => mkA 62 e []) (ch (ch (ch (ch rfl rfl) rfl) rfl) rfl), H28_, (Same.trans S8_ (Same.drew _))⟩
  refine AllR.cons ?_ ?_
  ·skip
   refine A_op (ls' := #[true, true, true, false, false, true, true, true, true, false, false, false, false]) rfl (by kernel_rfl) (T_val (v := (vS (some ea) em ec)) (x_load1 rfl underlying101 rfl (RC.cell hrc (Holds.ro_at H28_ 0 rfl) (j := 1) (u := (vS (some ea) em ec)) (rfl))) ?_)
   refine ⟨⟨Holds.mprd H28_ 1 rfl, Holds.rd H28_ 2 rfl, Holds.mprd H28_ 3 rfl, Holds.rd H28_ 5 rfl, Holds.tr_rd H28_ 6 rfl 7 rfl, (And.intro (Holds.rdf H28_ 7 rfl) (Holds.blk H28_ 7 rfl)), (Holds.ro_at H28_ 0 rfl)⟩, ?_⟩
   refine A_tk 9 (v := (Value.string (strN (ints x.end_)))) rfl (by kernel_rfl) (fun w hS => x_b2sRS rfl hes hS.2.2.2.2.2.2 underlying101 underlying5 underlying9) hq272_ ?_
   exact hJ83 _ _ ⟨_, congrArg (fun e => mkA 62 e []) (ch (ch (ch (ch rfl rfl) rfl) rfl) rfl), H28_, (Same.trans S8_ (Same.drew _))⟩
  refine AllR.cons ?_ AllR.nil
  refine A_op (ls' := #[true, true, true, false, false, true, true, true, false, false, false, true, false]) rfl (by kernel_rfl) (T_alloc z177 H28_ ?_)
  intro b273_ w274_ S276_ H275_
  have S277_ := Same.trans (Same.trans S8_ (Same.drew _)) S276_
  refine ⟨⟨Holds.mprd H275_ 2 rfl, Holds.rd H275_ 3 rfl, Holds.mprd H275_ 4 rfl, Holds.rd H275_ 6 rfl, Holds.tr_rd H275_ 7 rfl 8 rfl, (And.intro (Holds.rdf H275_ 8 rfl) (Holds.blk H275_ 8 rfl)), (Holds.ro_at H275_ 1 rfl)⟩, ?_⟩
  exact hJ85 _ _ ⟨b273_, _, congrArg (fun e => mkA 62 e []) (ch (ch (ch (ch (ch rfl rfl) rfl) rfl) rfl) rfl), H275_, S277_⟩
end Go.Proofs.YtlnihndjepjagaaGreat
