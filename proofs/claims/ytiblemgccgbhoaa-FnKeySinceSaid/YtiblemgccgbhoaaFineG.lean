/- 'impl.fine' of a call that returns: true, and what the call did. -/
import Derived.Test.YtiblemgccgbhoaaGwG
import Derived.Test.YtiblemgccgbhoaaGwW
import Derived.Test.YtiblemgccgbhoaaProg
set_option linter.unusedVariables false
set_option linter.unusedSimpArgs false
namespace Go.Proofs.Ytiblemgccgbhoaa
open Go Go.RowKit Gw
theorem fineT : tin Try.prog 4 = some (1, 1, some (.bool false)) := by kernel_rfl
theorem catch_idle (p : Addr) (w : World) :
    CallsD Try.prog 35 #[.pointer (some p)] .returning w fun e u' w' => e = .returned (.tuple #[]) ∧ u' = .returning ∧ w' = w := by
  refine callsD_of_wpS Try.func35 rfl fun c₀ cs hu => ?_
  apply wpS_seq
  apply wpS_region
  simp [wpOpsS, go_sem, recoverD, hu, Try.ntmps35, Exit.thenS]
  refine wpS_cond (t := false) (by simp [Act.eval, Array.replicate]) ?_
  simp only [Bool.false_eq_true, if_false]
  refine wpS_of_wp (wp_skip ?_)
  cases c₀
  simp_all [bodyPostS, results, Try.results35]
theorem fine_retG (fc : FuncId) (cap : List Value) (R : HP) (pre : List SP) (Qc : HP → Value → List SP → Prop) (hcb : callable Try.prog fc = true) (h : TriG Try.prog fc cap.toArray R pre Qc) :
    TriG Try.prog 21 #[.func (.func fc) #[] cap.toArray] R pre (fun R' v post => v = .bool true ∧ ∃ v', Qc R' v' post) := by
  intro w F H
  refine Calls.intoD (n := 6) (al := [.func (.func fc) #[] cap.toArray]) Try.func21 rfl Try.ntmps21 rfl rfl ?_
  refine C_seq (fun K hK => ?_)
  refine C_reg ?_
  refine S_list (T_alloc fineT H ?_)
  intro b w1 S1 H1
  refine wpList_nil (X_then (hK _ _ ?_))
  clear hK
  refine C_seq (fun K hK => ?_)
  refine C_reg ?_
  refine S_list (T_val (v := .func (.func 35) #[] #[.pointer (some ⟨b, 0, none⟩)]) (by kernel_rfl) ?_)
  refine S_defer (dd := { target := .fn (.func 35) #[.pointer (some ⟨b, 0, none⟩)], args := #[] }) (by kernel_rfl) ?_
  refine wpList_nil (X_then (hK _ _ ?_))
  clear hK
  refine C_seq (fun K hK => ?_)
  refine C_reg ?_
  refine S_list (T_val (v := .func (.func fc) #[] cap.toArray) (x_move rfl) ?_)
  have H1' : Holds w1 (ro R :: (pre ++ (cl b 4 [.bool false] :: F))) := by
    have a : Holds w1 ([cl b 4 [.bool false]] ++ ((ro R :: pre) ++ F)) := H1
    have c := Sat.append.1 a
    obtain ⟨h1, k1, s1, t1, d1, a1, r1⟩ := c
    obtain ⟨h2, k2, s2, t2, d2, a2, r2⟩ := Sat.append.1 r1
    have : Sat ((ro R :: pre) ++ ([cl b 4 [.bool false]] ++ F)) (hp w1) :=
      Sat.append.2 ⟨h2, un h1 k2, s2.trans' t1, Sub.un_lub s1 (t2.trans' t1), (Dis.un_left (d1.sub_right s2) d2.symm).symm, a2, Sat.append.2 ⟨h1, k2, Sub.un_left _ _, Sub.un_right (d1.sub_right t2), d1.sub_right t2, a1, r2⟩⟩
    exact this
  refine S_list (T_callG (al := cap) (cl := cap) (pre := pre) (F := cl b 4 [.bool false] :: F) rfl rfl hcb h H1' ?_)
  rintro R' v post w2 hs hq S2 H2
  refine wpList_nil (X_then (hK _ _ ?_))
  clear hK
  have H3 : Holds w2 (cl b 4 [.bool false] :: (ro R' :: (post ++ F))) := by
    have a : Holds w2 ((ro R' :: post) ++ ([cl b 4 [.bool false]] ++ F)) := H2
    obtain ⟨h1, k1, s1, t1, d1, a1, r1⟩ := Sat.append.1 a
    obtain ⟨h2, k2, s2, t2, d2, a2, r2⟩ := Sat.append.1 r1
    have : Sat ([cl b 4 [.bool false]] ++ ((ro R' :: post) ++ F)) (hp w2) :=
      Sat.append.2 ⟨h2, un h1 k2, s2.trans' t1, Sub.un_lub s1 (t2.trans' t1), (Dis.un_left (d1.sub_right s2) d2.symm).symm, a2, Sat.append.2 ⟨h1, k2, Sub.un_left _ _, Sub.un_right (d1.sub_right t2), d1.sub_right t2, a1, r2⟩⟩
    exact this
  refine C_seq (fun K hK => ?_)
  refine C_reg ?_
  refine S_list0 (T_store1 (v := .bool true) rfl rfl fineT rfl H3 0 rfl (by simp) ?_)
  intro w4 S4 H4
  refine wpList_nil (X_then (hK _ _ ?_))
  clear hK
  refine C_ret ?_
  show Leaves _ _ _ _ (mkA _ _ _).defers _ _
  rw [mkA_defers]
  refine leaves_cons (f := 35) (args := #[.pointer (some ⟨b, 0, none⟩)]) (by simp) (by simp [go_sem]) ?_
  refine (catch_idle ⟨b, 0, none⟩ _).mono ?_
  rintro e u' w5 ⟨rfl, rfl, rfl⟩
  show Leaves _ _ _ _ _ _ _
  refine ⟨.bool true, run_results1 (r := .cell 2 4) rfl ⟨_, rfl, load_res1 Try.underlying4 rfl (Holds.cl_cell H4 0 rfl (k := 0) rfl)⟩, ?_⟩
  exact ⟨R', _, post, rfl, hs, ⟨rfl, v, hq⟩, (S1.trans S2).trans S4, Holds.tail H4⟩
end Go.Proofs.Ytiblemgccgbhoaa
