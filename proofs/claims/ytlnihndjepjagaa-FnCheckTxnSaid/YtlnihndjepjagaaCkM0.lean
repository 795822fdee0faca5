/- What a request is refused for. -/
import Derived.Test.YtlnihndjepjagaaCkL0
set_option linter.unusedVariables false
set_option linter.unusedSimpArgs false
namespace Go.Proofs.Ytlnihndjepjagaa
open Go Go.RowKit Gw

section
variable {P : Program} {n : Nat} {e : Env} {w : World} {d : Option Nat} {ty : TypeId} {pos : String} {af : Array Edge} {g : Option (Nat × Bool)}
theorem x_max3 {o1 o2 o3 : Operand} {at_ : Array TypeId} {k : IntKind} {a b c m : Int} (h1 : ev n e o1 = .int k a) (h2 : ev n e o2 = .int k b) (h3 : ev n e o3 = .int k c) (hv : max (max a b) c = m) :
    (execOp (ev n e) ⟨d, .call { callee := .builtin .max, args := #[o1, o2, o3], argTypes := at_ }, ty, pos, af, g⟩).run P w = .ok (.value (.int k m)) w := by
  subst hv
  simp only [execOp, resolve, Sem.run_bind, Sem.run_pure, Result.andThen_ok, invoke, builtin]
  simp [h1, h2, h3, Builtin.max_, Builtin.max2, max_ite]
end
theorem size_of_eq {u : ByteArray} (h : (u.toList == (ByteArray.mk #[]).toList) = true) : u.size = 0 := by rw [empty_of h]; rfl
theorem size_of_ne {u : ByteArray} (h : (u.toList == (ByteArray.mk #[]).toList) = false) : u.size ≠ 0 := by
  intro h0
  have : u = ByteArray.mk #[] := by
    have hd : u.data = #[] := Array.eq_empty_of_size_eq_zero h0
    cases u; simp at hd; rw [hd]
  rw [this] at h
  simp at h
theorem ones_RT {R : HP} {L : List RT} (h : RAts R L) : ∀ u ∈ L.flatMap RT.cells, u.oneCell' = true := by
  intro u hu
  obtain ⟨x, hx, hu⟩ := List.mem_flatMap.1 hu
  simp only [RT.cells, RQ.cells, List.mem_cons, List.not_mem_nil, or_false] at hu
  rcases hu with rfl | rfl | rfl | rfl | rfl | rfl | rfl | rfl | rfl | rfl | rfl | rfl | rfl | rfl | rfl | rfl | rfl | rfl | rfl | rfl | rfl <;> first | rfl | exact (h x hx).c.one | exact (h x hx).t.one | exact (h x hx).e.one
theorem refL_app (m : Int) : ∀ (A B : List RT), refL (A ++ B) m = if refL A m ≠ 0 then refL A m else refL B m
  | [], B => by rw [List.nil_append, refL]; rfl
  | x :: l, B => by
    rw [List.cons_append, refL, refL, refL_app m l B]
    by_cases h : refT x m = 0
    · rw [h]; rfl
    · rw [if_pos h, if_pos h, if_pos h]
theorem ref_4' {x : RT} {most : Int} (h : x.q.kind = 4) : refT x most = if (mxT x : Int) > most then 4 else if x.cc.any (fun c => decide (c.key.size = 0)) then 1 else refL (x.tt ++ x.ee) (most - mxT x) := by
  rw [ref_4 h, refL_app]
theorem ref_all {x y : RT} {most e : Int} {k : Nat} (h4 : x.q.kind = 4) (h : ¬ most < mxT x) (hcc : ¬ x.cc.any (fun c => decide (c.key.size = 0)) = true) (hin : refL (x.tt ++ x.ee) (most - mxT x) = refL ((x.tt ++ x.ee).drop k) (most - mxT x))
    (hy : (x.tt ++ x.ee)[k]? = some y) (he : refT y (most - mxT x) = e) (h0 : e ≠ 0) : e = refT x most := by
  rw [ref_4' h4, if_neg h, if_neg hcc, hin, drop_at hy, refL, he, if_pos h0]
theorem ref_allok {x : RT} {most : Int} (h4 : x.q.kind = 4) (h : ¬ most < mxT x) (hcc : ¬ x.cc.any (fun c => decide (c.key.size = 0)) = true) (hin : refL (x.tt ++ x.ee) (most - mxT x) = 0) : 0 = refT x most := by
  rw [ref_4' h4, if_neg h, if_neg hcc, hin]
theorem RAts.app {R : HP} {A B : List RT} (h1 : RAts R A) (h2 : RAts R B) : RAts R (A ++ B) := fun y hy => by
  rcases List.mem_append.1 hy with h | h
  · exact h1 y h
  · exact h2 y h


set_option maxHeartbeats 2000000 in
theorem ckRefused_step (R : HP) (x : RT) (most : Int) (n__ : Nat) (hR : RAt R x) (hP : Pln x) (hmo : 0 ≤ most ∧ most ≤ 1048576) (hn__ : x.sz ≤ n__) (ih : ∀ (R : HP) (x : RT) (most : Int) (hR : RAt R x) (hP : Pln x) (hmo : 0 ≤ most ∧ most ≤ 1048576) (hms : x.sz < n__), Tri Try.prog 16 #[(Value.agg #[(Value.int .i64 x.q.kind), (Value.string x.q.key), (Value.string x.q.end_), (Value.string x.q.value), (Value.int .i64 x.q.lease), (Value.int .i64 x.q.rev), (Value.int .i64 x.q.limit), (Value.int .i64 x.q.sortOrder), (Value.int .i64 x.q.sortTarget), (Value.int .i64 x.q.minMod), (Value.int .i64 x.q.maxMod), (Value.int .i64 x.q.minCreate), (Value.int .i64 x.q.maxCreate), (Value.bool x.q.keysOnly), (Value.bool x.q.countOnly), (Value.bool x.q.prev), (Value.bool x.q.ignoreValue), (Value.bool x.q.ignoreLease), x.q.cmps, x.q.then_, x.q.else_]), (Value.int .i64 most)] R [] (fun v__ post__ => v__ = (Value.int .i64 (refT x most)) ∧ post__ = [])) :
    Tri Try.prog 16 #[(Value.agg #[(Value.int .i64 x.q.kind), (Value.string x.q.key), (Value.string x.q.end_), (Value.string x.q.value), (Value.int .i64 x.q.lease), (Value.int .i64 x.q.rev), (Value.int .i64 x.q.limit), (Value.int .i64 x.q.sortOrder), (Value.int .i64 x.q.sortTarget), (Value.int .i64 x.q.minMod), (Value.int .i64 x.q.maxMod), (Value.int .i64 x.q.minCreate), (Value.int .i64 x.q.maxCreate), (Value.bool x.q.keysOnly), (Value.bool x.q.countOnly), (Value.bool x.q.prev), (Value.bool x.q.ignoreValue), (Value.bool x.q.ignoreLease), x.q.cmps, x.q.then_, x.q.else_]), (Value.int .i64 most)] R [] (fun v__ post__ => v__ = (Value.int .i64 (refT x most)) ∧ post__ = []) := by
 have hk_ := hP.k
 have hb_ := hR.b
 have hs1 := x.sz_tt
 have hs2 := x.sz_ee
 have hpb_ := @Pln.b x hP
 have h4i_ : x.q.kind = 4 → mxT x ≤ 200 := fun h => by have := hP.b h; unfold mxT; omega
 refine Tri.into (n := 110) (al := [(Value.agg #[(Value.int .i64 x.q.kind), (Value.string x.q.key), (Value.string x.q.end_), (Value.string x.q.value), (Value.int .i64 x.q.lease), (Value.int .i64 x.q.rev), (Value.int .i64 x.q.limit), (Value.int .i64 x.q.sortOrder), (Value.int .i64 x.q.sortTarget), (Value.int .i64 x.q.minMod), (Value.int .i64 x.q.maxMod), (Value.int .i64 x.q.minCreate), (Value.int .i64 x.q.maxCreate), (Value.bool x.q.keysOnly), (Value.bool x.q.countOnly), (Value.bool x.q.prev), (Value.bool x.q.ignoreValue), (Value.bool x.q.ignoreLease), x.q.cmps, x.q.then_, x.q.else_]), (Value.int .i64 most)]) Try.func16 rfl Try.ntmps16 rfl rfl fun w F H => ?_
 replace H : Holds w (ro R :: F) := H
 refine C_seq (fun K1_ hK1_ => ?_)
 refine C_reg ?_
 refine S_list (T_box (v := (Value.agg #[(Value.int .i64 x.q.kind), (Value.string x.q.key), (Value.string x.q.end_), (Value.string x.q.value), (Value.int .i64 x.q.lease), (Value.int .i64 x.q.rev), (Value.int .i64 x.q.limit), (Value.int .i64 x.q.sortOrder), (Value.int .i64 x.q.sortTarget), (Value.int .i64 x.q.minMod), (Value.int .i64 x.q.maxMod), (Value.int .i64 x.q.minCreate), (Value.int .i64 x.q.maxCreate), (Value.bool x.q.keysOnly), (Value.bool x.q.countOnly), (Value.bool x.q.prev), (Value.bool x.q.ignoreValue), (Value.bool x.q.ignoreLease), x.q.cmps, x.q.then_, x.q.else_])) rfl H ?_)
 intro b2_ w3_ S5_ H4_
 have S6_ := Same.trans (Same.refl w) S5_
 refine S_list (T_val (v := (Value.int .i64 0)) (x_assign rfl) ?_)
 refine wpList_nil ?_
 refine (X_then (hK1_ _ _ ?_))
 clear hK1_
 refine C_seq (fun K7_ hK7_ => ?_)
 refine C_seq (fun K8_ hK8_ => ?_)
 refine C_reg ?_
 refine S_list (T_val (v := (Value.pointer (some ⟨b2_, 0, none⟩))) (by kernel_rfl) ?_)
 refine S_list (T_val (v := (Value.int .i64 x.q.kind)) (x_load1 rfl Try.underlying3 rfl ((Holds.rd H4_ 0 rfl) 0 (Value.int .i64 x.q.kind) rfl)) ?_)
 refine wpList_nil ?_
 refine (X_then (hK8_ _ _ ?_))
 clear hK8_
 refine C_block ?_
 refine C_seq (fun K9_ hK9_ => ?_)
 refine C_reg ?_
 refine S_list (T_val (v := (Value.bool (decide (x.q.kind = 1)))) (x_bin rfl rfl rfl) ?_)
 refine S_list (T_val (v := (Value.bool (decide (x.q.kind = 1)))) (x_assign rfl) ?_)
 refine wpList_nil ?_
 refine (X_then (hK9_ _ _ ?_))
 clear hK9_
 refine C_cond (b := decide (x.q.kind = 1)) rfl (fun c10_t => ?_) (fun c10_f => ?_)
 ·have c10_tp : x.q.kind = 1 := of_decide_eq_true c10_t
  refine C_seq (fun K11_ hK11_ => ?_)
  refine C_block ?_
  refine C_seq (fun K12_ hK12_ => ?_)
  refine C_reg ?_
  refine S_list (T_val (v := (Value.pointer (some ⟨b2_, 1, none⟩))) (by kernel_rfl) ?_)
  refine S_list (T_val (v := (Value.string x.q.key)) (x_load1 rfl Try.underlying9 rfl ((Holds.rd H4_ 0 rfl) 1 (Value.string x.q.key) rfl)) ?_)
  refine S_list (T_val (v := (Value.bool (x.q.key.toList == (ByteArray.mk #[]).toList))) (x_str rfl rfl rfl (by decide)) ?_)
  refine S_list (T_val (v := (Value.bool (x.q.key.toList == (ByteArray.mk #[]).toList))) (x_assign rfl) ?_)
  refine wpList_nil ?_
  refine (X_then (hK12_ _ _ ?_))
  clear hK12_
  refine C_cond (b := x.q.key.toList == (ByteArray.mk #[]).toList) rfl (fun c13_t => ?_) (fun c13_f => ?_)
  ·skip
   have := size_of_eq c13_t
   refine C_seq (fun K14_ hK14_ => ?_)
   refine C_reg ?_
   refine S_list (T_val (v := (Value.int .i64 1)) (x_assign rfl) ?_)
   refine wpList_nil ?_
   refine (X_then (hK14_ _ _ ?_))
   clear hK14_
   refine C_ret (X_blkR (X_thenR (X_blkR (X_thenR ?_))))
   refine R_any (v := (Value.int .i64 1)) (run_results1 rfl rfl) ?_
   have H15_ : Holds w3_ (ro R :: F) := (Holds.pkF H4_ [1] 1 :)
   exact ⟨_, _, rfl, ⟨(congrArg (Value.int .i64) ((by rw [ref_1 (by omega)]; split <;> first | rfl | omega | (split <;> first | rfl | omega)) : 1 = refT x most)), rfl⟩, S6_, H15_⟩
  ·skip
   have := size_of_ne c13_f
   refine C_seq (fun K16_ hK16_ => ?_)
   refine C_reg ?_
   refine S_list (T_val (v := (Value.pointer (some ⟨b2_, 7, none⟩))) (by kernel_rfl) ?_)
   refine S_list (T_val (v := (Value.int .i64 x.q.sortOrder)) (x_load1 rfl Try.underlying3 rfl ((Holds.rd H4_ 0 rfl) 7 (Value.int .i64 x.q.sortOrder) rfl)) ?_)
   refine S_list (T_val (v := (Value.bool (decide (x.q.sortOrder < 0)))) (x_bin rfl rfl rfl) ?_)
   refine S_list (T_val (v := (Value.bool (decide (x.q.sortOrder < 0)))) (x_move rfl) ?_)
   rcases Bool.eq_false_or_eq_true (decide (x.q.sortOrder < 0)) with c17_t | c17_f
   ·have c17_tp : x.q.sortOrder < 0 := of_decide_eq_true c17_t
    refine S_no (j := 3) (dj := 23) (b := true) rfl rfl (congrArg Value.bool c17_t) (by decide) ?_
    refine S_no (j := 3) (dj := 23) (b := true) rfl rfl (congrArg Value.bool c17_t) (by decide) ?_
    refine S_no (j := 3) (dj := 23) (b := true) rfl rfl (congrArg Value.bool c17_t) (by decide) ?_
    refine S_list (T_pickT (v := (Value.bool true)) (congrArg Value.bool c17_t) rfl ?_)
    refine S_list (T_val (v := (Value.bool true)) (x_move rfl) ?_)
    refine S_no (j := 8) (dj := 28) (b := true) rfl rfl rfl (by decide) ?_
    refine S_no (j := 8) (dj := 28) (b := true) rfl rfl rfl (by decide) ?_
    refine S_no (j := 8) (dj := 28) (b := true) rfl rfl rfl (by decide) ?_
    refine S_list (T_pickT (v := (Value.bool true)) rfl rfl ?_)
    refine S_list (T_val (v := (Value.bool true)) (x_move rfl) ?_)
    refine S_no (j := 13) (dj := 33) (b := true) rfl rfl rfl (by decide) ?_
    refine S_no (j := 13) (dj := 33) (b := true) rfl rfl rfl (by decide) ?_
    refine S_no (j := 13) (dj := 33) (b := true) rfl rfl rfl (by decide) ?_
    refine S_list (T_pickT (v := (Value.bool true)) rfl rfl ?_)
    refine S_list (T_val (v := (Value.bool true)) (x_assign rfl) ?_)
    refine wpList_nil ?_
    refine (X_then (hK16_ _ _ ?_))
    clear hK16_
    refine C_condT rfl ?_
    refine C_seq (fun K18_ hK18_ => ?_)
    refine C_reg ?_
    refine S_list (T_val (v := (Value.int .i64 6)) (x_assign rfl) ?_)
    refine wpList_nil ?_
    refine (X_then (hK18_ _ _ ?_))
    clear hK18_
    refine C_ret (X_blkR (X_thenR (X_blkR (X_thenR ?_))))
    refine R_any (v := (Value.int .i64 6)) (run_results1 rfl rfl) ?_
    have H19_ : Holds w3_ (ro R :: F) := (Holds.pkF H4_ [1] 1 :)
    exact ⟨_, _, rfl, ⟨(congrArg (Value.int .i64) ((by rw [ref_1 (by omega)]; split <;> first | rfl | omega | (split <;> first | rfl | omega)) : 6 = refT x most)), rfl⟩, S6_, H19_⟩
   ·have c17_fp : ¬ (x.q.sortOrder < 0) := of_decide_eq_false c17_f
    refine S_yes (j := 3) (dj := 23) (b := false) rfl rfl (congrArg Value.bool c17_f) (T_val (v := (Value.pointer (some ⟨b2_, 7, none⟩))) (by kernel_rfl) ?_)
    refine S_yes (j := 3) (dj := 23) (b := false) rfl rfl (congrArg Value.bool c17_f) (T_val (v := (Value.int .i64 x.q.sortOrder)) (x_load1 rfl Try.underlying3 rfl ((Holds.rd H4_ 0 rfl) 7 (Value.int .i64 x.q.sortOrder) rfl)) ?_)
    refine S_yes (j := 3) (dj := 23) (b := false) rfl rfl (congrArg Value.bool c17_f) (T_val (v := (Value.bool (decide (2 < x.q.sortOrder)))) (x_bin rfl rfl rfl) ?_)
    refine S_list (T_pickF (v := (Value.bool (decide (2 < x.q.sortOrder)))) (congrArg Value.bool c17_f) rfl ?_)
    refine S_list (T_val (v := (Value.bool (decide (2 < x.q.sortOrder)))) (x_move rfl) ?_)
    rcases Bool.eq_false_or_eq_true (decide (2 < x.q.sortOrder)) with c20_t | c20_f
    ·have c20_tp : 2 < x.q.sortOrder := of_decide_eq_true c20_t
     refine S_no (j := 8) (dj := 28) (b := true) rfl rfl (congrArg Value.bool c20_t) (by decide) ?_
     refine S_no (j := 8) (dj := 28) (b := true) rfl rfl (congrArg Value.bool c20_t) (by decide) ?_
     refine S_no (j := 8) (dj := 28) (b := true) rfl rfl (congrArg Value.bool c20_t) (by decide) ?_
     refine S_list (T_pickT (v := (Value.bool true)) (congrArg Value.bool c20_t) rfl ?_)
     refine S_list (T_val (v := (Value.bool true)) (x_move rfl) ?_)
     refine S_no (j := 13) (dj := 33) (b := true) rfl rfl rfl (by decide) ?_
     refine S_no (j := 13) (dj := 33) (b := true) rfl rfl rfl (by decide) ?_
     refine S_no (j := 13) (dj := 33) (b := true) rfl rfl rfl (by decide) ?_
     refine S_list (T_pickT (v := (Value.bool true)) rfl rfl ?_)
     refine S_list (T_val (v := (Value.bool true)) (x_assign rfl) ?_)
     refine wpList_nil ?_
     refine (X_then (hK16_ _ _ ?_))
     clear hK16_
     refine C_condT rfl ?_
     refine C_seq (fun K21_ hK21_ => ?_)
     refine C_reg ?_
     refine S_list (T_val (v := (Value.int .i64 6)) (x_assign rfl) ?_)
     refine wpList_nil ?_
     refine (X_then (hK21_ _ _ ?_))
     clear hK21_
     refine C_ret (X_blkR (X_thenR (X_blkR (X_thenR ?_))))
     refine R_any (v := (Value.int .i64 6)) (run_results1 rfl rfl) ?_
     have H22_ : Holds w3_ (ro R :: F) := (Holds.pkF H4_ [1] 1 :)
     exact ⟨_, _, rfl, ⟨(congrArg (Value.int .i64) ((by rw [ref_1 (by omega)]; split <;> first | rfl | omega | (split <;> first | rfl | omega)) : 6 = refT x most)), rfl⟩, S6_, H22_⟩
    ·have c20_fp : ¬ (2 < x.q.sortOrder) := of_decide_eq_false c20_f
     refine S_yes (j := 8) (dj := 28) (b := false) rfl rfl (congrArg Value.bool c20_f) (T_val (v := (Value.pointer (some ⟨b2_, 8, none⟩))) (by kernel_rfl) ?_)
     refine S_yes (j := 8) (dj := 28) (b := false) rfl rfl (congrArg Value.bool c20_f) (T_val (v := (Value.int .i64 x.q.sortTarget)) (x_load1 rfl Try.underlying3 rfl ((Holds.rd H4_ 0 rfl) 8 (Value.int .i64 x.q.sortTarget) rfl)) ?_)
     refine S_yes (j := 8) (dj := 28) (b := false) rfl rfl (congrArg Value.bool c20_f) (T_val (v := (Value.bool (decide (x.q.sortTarget < 0)))) (x_bin rfl rfl rfl) ?_)
     refine S_list (T_pickF (v := (Value.bool (decide (x.q.sortTarget < 0)))) (congrArg Value.bool c20_f) rfl ?_)
     refine S_list (T_val (v := (Value.bool (decide (x.q.sortTarget < 0)))) (x_move rfl) ?_)
     rcases Bool.eq_false_or_eq_true (decide (x.q.sortTarget < 0)) with c23_t | c23_f
     ·have c23_tp : x.q.sortTarget < 0 := of_decide_eq_true c23_t
      refine S_no (j := 13) (dj := 33) (b := true) rfl rfl (congrArg Value.bool c23_t) (by decide) ?_
      refine S_no (j := 13) (dj := 33) (b := true) rfl rfl (congrArg Value.bool c23_t) (by decide) ?_
      refine S_no (j := 13) (dj := 33) (b := true) rfl rfl (congrArg Value.bool c23_t) (by decide) ?_
      refine S_list (T_pickT (v := (Value.bool true)) (congrArg Value.bool c23_t) rfl ?_)
      refine S_list (T_val (v := (Value.bool true)) (x_assign rfl) ?_)
      refine wpList_nil ?_
      refine (X_then (hK16_ _ _ ?_))
      clear hK16_
      refine C_condT rfl ?_
      refine C_seq (fun K24_ hK24_ => ?_)
      refine C_reg ?_
      refine S_list (T_val (v := (Value.int .i64 6)) (x_assign rfl) ?_)
      refine wpList_nil ?_
      refine (X_then (hK24_ _ _ ?_))
      clear hK24_
      refine C_ret (X_blkR (X_thenR (X_blkR (X_thenR ?_))))
      refine R_any (v := (Value.int .i64 6)) (run_results1 rfl rfl) ?_
      have H25_ : Holds w3_ (ro R :: F) := (Holds.pkF H4_ [1] 1 :)
      exact ⟨_, _, rfl, ⟨(congrArg (Value.int .i64) ((by rw [ref_1 (by omega)]; split <;> first | rfl | omega | (split <;> first | rfl | omega)) : 6 = refT x most)), rfl⟩, S6_, H25_⟩
     ·have c23_fp : ¬ (x.q.sortTarget < 0) := of_decide_eq_false c23_f
      refine S_yes (j := 13) (dj := 33) (b := false) rfl rfl (congrArg Value.bool c23_f) (T_val (v := (Value.pointer (some ⟨b2_, 8, none⟩))) (by kernel_rfl) ?_)
      refine S_yes (j := 13) (dj := 33) (b := false) rfl rfl (congrArg Value.bool c23_f) (T_val (v := (Value.int .i64 x.q.sortTarget)) (x_load1 rfl Try.underlying3 rfl ((Holds.rd H4_ 0 rfl) 8 (Value.int .i64 x.q.sortTarget) rfl)) ?_)
      refine S_yes (j := 13) (dj := 33) (b := false) rfl rfl (congrArg Value.bool c23_f) (T_val (v := (Value.bool (decide (4 < x.q.sortTarget)))) (x_bin rfl rfl rfl) ?_)
      refine S_list (T_pickF (v := (Value.bool (decide (4 < x.q.sortTarget)))) (congrArg Value.bool c23_f) rfl ?_)
      refine S_list (T_val (v := (Value.bool (decide (4 < x.q.sortTarget)))) (x_assign rfl) ?_)
      refine wpList_nil ?_
      refine (X_then (hK16_ _ _ ?_))
      clear hK16_
      refine C_cond (b := decide (4 < x.q.sortTarget)) rfl (fun c26_t => ?_) (fun c26_f => ?_)
      ·have c26_tp : 4 < x.q.sortTarget := of_decide_eq_true c26_t
       refine C_seq (fun K27_ hK27_ => ?_)
       refine C_reg ?_
       refine S_list (T_val (v := (Value.int .i64 6)) (x_assign rfl) ?_)
       refine wpList_nil ?_
       refine (X_then (hK27_ _ _ ?_))
       clear hK27_
       refine C_ret (X_blkR (X_thenR (X_blkR (X_thenR ?_))))
       refine R_any (v := (Value.int .i64 6)) (run_results1 rfl rfl) ?_
       have H28_ : Holds w3_ (ro R :: F) := (Holds.pkF H4_ [1] 1 :)
       exact ⟨_, _, rfl, ⟨(congrArg (Value.int .i64) ((by rw [ref_1 (by omega)]; split <;> first | rfl | omega | (split <;> first | rfl | omega)) : 6 = refT x most)), rfl⟩, S6_, H28_⟩
      ·have c26_fp : ¬ (4 < x.q.sortTarget) := of_decide_eq_false c26_f
       refine C_skip (X_blkN (X_then (hK11_ _ _ ?_)))
       clear hK11_
       refine C_seq (fun K29_ hK29_ => ?_)
       refine C_reg ?_
       refine S_list (T_val (v := (Value.int .i64 0)) (x_assign rfl) ?_)
       refine wpList_nil ?_
       refine (X_then (hK29_ _ _ ?_))
       clear hK29_
       refine C_ret (X_blkR (X_thenR ?_))
       refine R_any (v := (Value.int .i64 0)) (run_results1 rfl rfl) ?_
       have H30_ : Holds w3_ (ro R :: F) := (Holds.pkF H4_ [1] 1 :)
       exact ⟨_, _, rfl, ⟨(congrArg (Value.int .i64) ((by rw [ref_1 (by omega)]; split <;> first | rfl | omega | (split <;> first | rfl | omega)) : 0 = refT x most)), rfl⟩, S6_, H30_⟩
 ·have c10_fp : ¬ (x.q.kind = 1) := of_decide_eq_false c10_f
  refine C_seq (fun K31_ hK31_ => ?_)
  refine C_reg ?_
  refine S_list (T_val (v := (Value.bool (decide (x.q.kind = 2)))) (x_bin rfl rfl rfl) ?_)
  refine S_list (T_val (v := (Value.bool (decide (x.q.kind = 2)))) (x_assign rfl) ?_)
  refine wpList_nil ?_
  refine (X_then (hK31_ _ _ ?_))
  clear hK31_
  refine C_cond (b := decide (x.q.kind = 2)) rfl (fun c32_t => ?_) (fun c32_f => ?_)
  ·have c32_tp : x.q.kind = 2 := of_decide_eq_true c32_t
   omega
  ·have c32_fp : ¬ (x.q.kind = 2) := of_decide_eq_false c32_f
   refine C_seq (fun K33_ hK33_ => ?_)
   refine C_reg ?_
   refine S_list (T_val (v := (Value.bool (decide (x.q.kind = 3)))) (x_bin rfl rfl rfl) ?_)
   refine S_list (T_val (v := (Value.bool (decide (x.q.kind = 3)))) (x_assign rfl) ?_)
   refine wpList_nil ?_
   refine (X_then (hK33_ _ _ ?_))
   clear hK33_
   refine C_cond (b := decide (x.q.kind = 3)) rfl (fun c34_t => ?_) (fun c34_f => ?_)
   ·have c34_tp : x.q.kind = 3 := of_decide_eq_true c34_t
    omega
   ·have c34_fp : ¬ (x.q.kind = 3) := of_decide_eq_false c34_f
    refine C_skip (X_blkN (X_then (hK7_ _ _ ?_)))
    clear hK7_
    refine C_seq (fun K35_ hK35_ => ?_)
    refine C_reg ?_
    refine S_list (T_val (v := (Value.pointer (some ⟨b2_, 18, none⟩))) (by kernel_rfl) ?_)
    refine S_list (T_val (v := x.q.cmps) (x_load1 rfl Try.underlying22 rfl ((Holds.rd H4_ 0 rfl) 18 x.q.cmps rfl)) ?_)
    refine S_list (T_val (v := (Value.int .i64 ((List.length x.cc) : Int))) (x_lenRS rfl hR.c Try.underlying22) ?_)
    refine S_list (T_val (v := (Value.pointer (some ⟨b2_, 19, none⟩))) (by kernel_rfl) ?_)
    refine S_list (T_val (v := x.q.then_) (x_load1 rfl Try.underlying23 rfl ((Holds.rd H4_ 0 rfl) 19 x.q.then_ rfl)) ?_)
    refine S_list (T_val (v := (Value.int .i64 ((List.length x.tt) : Int))) (x_lenRS rfl hR.t Try.underlying23) ?_)
    refine S_list (T_val (v := (Value.pointer (some ⟨b2_, 20, none⟩))) (by kernel_rfl) ?_)
    refine S_list (T_val (v := x.q.else_) (x_load1 rfl Try.underlying23 rfl ((Holds.rd H4_ 0 rfl) 20 x.q.else_ rfl)) ?_)
    refine S_list (T_val (v := (Value.int .i64 ((List.length x.ee) : Int))) (x_lenRS rfl hR.e Try.underlying23) ?_)
    refine S_list (T_val (v := (Value.int .i64 (mxT x : Int))) (x_max3 rfl rfl rfl (by unfold mxT; omega)) ?_)
    refine S_list (T_val (v := (Value.int .i64 (mxT x : Int))) (x_assign rfl) ?_)
    refine wpList_nil ?_
    refine (X_then (hK35_ _ _ ?_))
    clear hK35_
    refine C_seq (fun K36_ hK36_ => ?_)
    refine C_seq (fun K37_ hK37_ => ?_)
    refine C_reg ?_
    refine S_list (T_val (v := (Value.int .i64 (mxT x : Int))) (x_move rfl) ?_)
    refine S_list (T_val (v := (Value.int .i64 most)) (x_move rfl) ?_)
    refine S_list (T_val (v := (Value.bool (decide (most < (mxT x : Int))))) (x_bin rfl rfl rfl) ?_)
    refine wpList_nil ?_
    refine (X_then (hK37_ _ _ ?_))
    clear hK37_
    refine C_cond (b := decide (most < (mxT x : Int))) rfl (fun c38_t => ?_) (fun c38_f => ?_)
    ·have c38_tp : most < (mxT x : Int) := of_decide_eq_true c38_t
     refine C_seq (fun K39_ hK39_ => ?_)
     refine C_reg ?_
     refine S_list (T_val (v := (Value.int .i64 4)) (x_assign rfl) ?_)
     refine wpList_nil ?_
     refine (X_then (hK39_ _ _ ?_))
     clear hK39_
     refine C_ret (X_thenR ?_)
     refine R_any (v := (Value.int .i64 4)) (run_results1 rfl rfl) ?_
     have h4_ : x.q.kind = 4 := by omega
     have H40_ : Holds w3_ (ro R :: F) := (Holds.pkF H4_ [1] 1 :)
     exact ⟨_, _, rfl, ⟨(congrArg (Value.int .i64) ((ref_many h4_ rfl (by omega)).symm : 4 = refT x most)), rfl⟩, S6_, H40_⟩
    ·have c38_fp : ¬ (most < (mxT x : Int)) := of_decide_eq_false c38_f
     refine C_skip (X_then (hK36_ _ _ ?_))
     clear hK36_
     refine C_seq (fun K41_ hK41_ => ?_)
     refine C_seq (fun K42_ hK42_ => ?_)
     refine C_reg ?_
     refine S_list (T_val (v := (Value.pointer (some ⟨b2_, 18, none⟩))) (by kernel_rfl) ?_)
     refine S_list (T_val (v := x.q.cmps) (x_load1 rfl Try.underlying22 rfl ((Holds.rd H4_ 0 rfl) 18 x.q.cmps rfl)) ?_)
     refine S_list (T_val (v := (Value.int .i64 ((List.length x.cc) : Int))) (x_lenRS rfl hR.c Try.underlying22) ?_)
     refine S_list (T_val (v := (Value.int .i64 0)) (x_move rfl) ?_)
     refine wpList_nil ?_
     refine (X_then (hK42_ _ _ ?_))
     clear hK42_
     refine C_block ?_
     have h4_ : x.q.kind = 4 := by omega
     have hpb := hP.b h4_
     refine C_loop (γ := Nat × Int) (fun x__ a__ w1__ => match x__ with | ⟨k, t4_v⟩ => ∃ h : Env, a__ = mkA 110 (upd (upd (upd (upd (upd (upd (upd h 1 (Value.int .i64 most)) 2 (Value.pointer (some ⟨b2_, 0, none⟩))) 4 (Value.int .i64 t4_v)) 5 (Value.int .i64 (mxT x : Int))) 79 x.q.cmps) 80 (Value.int .i64 ((List.length x.cc) : Int))) 81 (Value.int .i64 (k : Int))) [] ∧ Holds w1__ (cl b2_ 25 [(Value.int .i64 x.q.kind), (Value.string x.q.key), (Value.string x.q.end_), (Value.string x.q.value), (Value.int .i64 x.q.lease), (Value.int .i64 x.q.rev), (Value.int .i64 x.q.limit), (Value.int .i64 x.q.sortOrder), (Value.int .i64 x.q.sortTarget), (Value.int .i64 x.q.minMod), (Value.int .i64 x.q.maxMod), (Value.int .i64 x.q.minCreate), (Value.int .i64 x.q.maxCreate), (Value.bool x.q.keysOnly), (Value.bool x.q.countOnly), (Value.bool x.q.prev), (Value.bool x.q.ignoreValue), (Value.bool x.q.ignoreLease), x.q.cmps, x.q.then_, x.q.else_] :: ro R :: F) ∧ Same w w1__ ∧ (k ≤ x.cc.length) ∧ (¬ (x.cc.take k).any (fun c => decide (c.key.size = 0)) = true)) (fun x__ => match x__ with | ⟨k, t4_v⟩ => x.cc.length - k) (⟨0, 0⟩) ⟨_, congrArg (fun e => mkA 110 e []) (ch (ch (ch (ch (ch (ch (ch rfl rfl) rfl) rfl) rfl) rfl) rfl) (congrArg (Value.int .i64) ((by first | rfl | omega | (simp; done) | (simp; omega)) : 0 = (0 : Int)))), H4_, S6_, (by first | assumption | omega | exact rfl), (by simp)⟩ ?_
     rintro ⟨k, t4_v⟩ _ w43_ ⟨h, rfl, H44_, S45_, hk, hcc⟩
     refine C_seq (fun K46_ hK46_ => ?_)
     refine C_reg ?_
     refine S_list (T_val (v := (Value.bool (decide ((k : Int) < ((List.length x.cc) : Int))))) (x_bin rfl rfl rfl) ?_)
     refine wpList_nil ?_
     refine (X_then (hK46_ _ _ ?_))
     clear hK46_
     refine C_seq (fun K47_ hK47_ => ?_)
     refine C_cond (b := decide ((k : Int) < ((List.length x.cc) : Int))) rfl (fun c48_t => ?_) (fun c48_f => ?_)
     ·have c48_tp : (k : Int) < ((List.length x.cc) : Int) := of_decide_eq_true c48_t
      refine C_skip (X_then (hK47_ _ _ ?_))
      clear hK47_
      refine C_seq (fun K49_ hK49_ => ?_)
      refine C_block ?_
      refine C_seq (fun K50_ hK50_ => ?_)
      refine C_reg ?_
      obtain ⟨x51_, hx52_, hm53_⟩ := elem_at x.cc k (by omega)
      refine S_list (T_val (v := (Value.pointer (some ⟨(sb x.q.cmps), so x.q.cmps + (k * 7 + 0), none⟩))) (x_idxRS (v := x.q.cmps) rfl hR.c rfl Try.underlying22 z98 (by omega) (by omega) (by omega : _ = k) rfl) ?_)
      refine S_list (T_val (v := (Value.agg #[(Value.int .i64 x51_.target), (Value.int .i64 x51_.result), (Value.string x51_.key), (Value.string x51_.end_), (Value.int .i64 x51_.n), (Value.string x51_.value), (Value.bool x51_.bare)])) (x_loadN (vs := [(Value.int .i64 x51_.target), (Value.int .i64 x51_.result), (Value.string x51_.key), (Value.string x51_.end_), (Value.int .i64 x51_.n), (Value.string x51_.value), (Value.bool x51_.bare)]) rfl Try.underlying98 rfl z98 rfl (RC.cells (RS.rc hR.c) (Holds.ro_at H44_ 1 rfl) (k * 7 + 0) (fm_cells CM.len hx52_ (i := 0) rfl))) ?_)
      refine S_list (T_alloc z98 H44_ ?_)
      intro b54_ w55_ S57_ H56_
      have S58_ := Same.trans S45_ S57_
      refine S_list0 (T_storeN (vs := [(Value.int .i64 x51_.target), (Value.int .i64 x51_.result), (Value.string x51_.key), (Value.string x51_.end_), (Value.int .i64 x51_.n), (Value.string x51_.value), (Value.bool x51_.bare)]) rfl rfl z98 rfl (by simp [Value.oneCell']) H56_ 0 rfl (Nat.le_of_ble_eq_true (by rfl)) ?_)
      intro w59_ S61_ H60_
      have S62_ := Same.trans S58_ S61_
      refine wpList_nil ?_
      refine (X_then (hK50_ _ _ ?_))
      clear hK50_
      refine C_seq (fun K63_ hK63_ => ?_)
      refine C_reg ?_
      refine S_list (T_val (v := (Value.pointer (some ⟨b54_, 2, none⟩))) (by kernel_rfl) ?_)
      refine S_list (T_val (v := (Value.string x51_.key)) (x_load1 rfl Try.underlying9 rfl ((Holds.rd H60_ 0 rfl) 2 (Value.string x51_.key) rfl)) ?_)
      refine S_list (T_val (v := (Value.bool (x51_.key.toList == (ByteArray.mk #[]).toList))) (x_str rfl rfl rfl (by decide)) ?_)
      refine wpList_nil ?_
      refine (X_then (hK63_ _ _ ?_))
      clear hK63_
      refine C_cond (b := x51_.key.toList == (ByteArray.mk #[]).toList) rfl (fun c64_t => ?_) (fun c64_f => ?_)
      ·skip
       have := size_of_eq c64_t
       refine C_seq (fun K65_ hK65_ => ?_)
       refine C_reg ?_
       refine S_list (T_val (v := (Value.int .i64 1)) (x_assign rfl) ?_)
       refine wpList_nil ?_
       refine (X_then (hK65_ _ _ ?_))
       clear hK65_
       refine C_ret (X_blkR (X_thenR (X_thenR (X_blkR (X_thenR ?_)))))
       refine R_any (v := (Value.int .i64 1)) (run_results1 rfl rfl) ?_
       have h4_ : x.q.kind = 4 := by omega
       have H66_ : Holds w59_ (ro R :: F) := (Holds.pkF H60_ [2] 2 :)
       exact ⟨_, _, rfl, ⟨(congrArg (Value.int .i64) ((ref_key h4_ rfl (by omega) hx52_ (by omega)).symm : 1 = refT x most)), rfl⟩, S62_, H66_⟩
      ·skip
       have := size_of_ne c64_f
       refine C_skip (X_blkN (X_then (hK49_ _ _ ?_)))
       clear hK49_
       refine C_reg ?_
       refine S_list (T_val (v := (Value.int .i64 ((k : Int) + 1))) (x_bin rfl rfl (ib_add (IntWalk.i64_in _ (by omega)))) ?_)
       refine S_list (T_val (v := (Value.int .i64 ((k : Int) + 1))) (x_move rfl) ?_)
       refine wpList_nil ?_
       refine (X_then ?_)
       have H67_ : Holds w59_ (cl b2_ 25 [(Value.int .i64 x.q.kind), (Value.string x.q.key), (Value.string x.q.end_), (Value.string x.q.value), (Value.int .i64 x.q.lease), (Value.int .i64 x.q.rev), (Value.int .i64 x.q.limit), (Value.int .i64 x.q.sortOrder), (Value.int .i64 x.q.sortTarget), (Value.int .i64 x.q.minMod), (Value.int .i64 x.q.maxMod), (Value.int .i64 x.q.minCreate), (Value.int .i64 x.q.maxCreate), (Value.bool x.q.keysOnly), (Value.bool x.q.countOnly), (Value.bool x.q.prev), (Value.bool x.q.ignoreValue), (Value.bool x.q.ignoreLease), x.q.cmps, x.q.then_, x.q.else_] :: ro R :: F) := (Holds.pkF H60_ [1, 1] 1 :)
       exact ⟨⟨k + 1, t4_v⟩, ⟨_, congrArg (fun e => mkA 110 e []) (ch (ch (ch (ch (ch (ch (ch rfl rfl) rfl) rfl) rfl) rfl) rfl) (congrArg (Value.int .i64) ((by first | rfl | omega | (simp; done) | (simp; omega)) : (k : Int) + 1 = ((k + 1 : Nat) : Int)))), H67_, S62_, (by first | assumption | omega | exact rfl), (any_go hcc hx52_ (decide_eq_false (by omega)))⟩, by first | omega | (dsimp only; omega) | (simp; omega)⟩
     ·have c48_fp : ¬ ((k : Int) < ((List.length x.cc) : Int)) := of_decide_eq_false c48_f
      refine C_exit (X_thenX (X_thenX (X_blkHit ?_)))
      refine (X_then (hK41_ _ _ ?_))
      clear hK41_
      refine C_seq (fun K68_ hK68_ => ?_)
      refine C_seq (fun K69_ hK69_ => ?_)
      refine A_start (S := fun w => Rd b2_ [(Value.int .i64 x.q.kind), (Value.string x.q.key), (Value.string x.q.end_), (Value.string x.q.value), (Value.int .i64 x.q.lease), (Value.int .i64 x.q.rev), (Value.int .i64 x.q.limit), (Value.int .i64 x.q.sortOrder), (Value.int .i64 x.q.sortTarget), (Value.int .i64 x.q.minMod), (Value.int .i64 x.q.maxMod), (Value.int .i64 x.q.minCreate), (Value.int .i64 x.q.maxCreate), (Value.bool x.q.keysOnly), (Value.bool x.q.countOnly), (Value.bool x.q.prev), (Value.bool x.q.ignoreValue), (Value.bool x.q.ignoreLease), x.q.cmps, x.q.then_, x.q.else_] w ∧ Sub R (hp w)) (N := 9) foll rfl rfl ?_
      have H70_ := Holds.drew_ H44_
      have hq71_ := And.intro (Holds.rd H70_ 0 rfl) ((Holds.ro_at H70_ 1 rfl))
      refine A_tk 1 (v := (Value.pointer (some ⟨b2_, 19, none⟩))) rfl (by kernel_rfl) (fun w hS => by kernel_rfl) hq71_ ?_
      refine A_tk 2 (v := x.q.then_) rfl (by kernel_rfl) (fun w hS => x_load1 rfl Try.underlying23 rfl (hS.1 19 x.q.then_ rfl)) hq71_ ?_
      refine A_tk 4 (v := (Value.pointer (some ⟨b2_, 20, none⟩))) rfl (by kernel_rfl) (fun w hS => by kernel_rfl) hq71_ ?_
      refine A_tk 5 (v := x.q.else_) rfl (by kernel_rfl) (fun w hS => x_load1 rfl Try.underlying23 rfl (hS.1 20 x.q.else_ rfl)) hq71_ ?_
      refine A_tk 8 (v := (Value.int .i64 0)) rfl (by kernel_rfl) (fun w hS => x_move rfl) hq71_ ?_
      refine A_ready (i := 0) (rs := []) (by kernel_rfl) ?_
      refine AllR.cons ?_ AllR.nil
      refine A_op (ls' := #[true, true, true, false, true, true, false, false, true]) rfl (by kernel_rfl) (T_new (obj := .cells #[] 25) (f := fun b__ => .slice (some ⟨b__, 0, none⟩) 0 0) (A := fun b__ => cl b__ 25 []) (by kernel_rfl) (fun l h => h.alloc _ _) H70_ ?_)
      intro b72_ w73_ S75_ H74_
      have S76_ := Same.trans (Same.trans S45_ (Same.drew _)) S75_
      refine ⟨⟨Holds.rd H74_ 1 rfl, (Holds.ro_at H74_ 2 rfl)⟩, ?_⟩
      refine A_ready (i := 3) (rs := []) (by kernel_rfl) ?_
      refine AllR.cons ?_ AllR.nil
      have H77_ : Holds w73_ (cl b72_ 25 ([] ++ [] ++ []) :: cl b2_ 25 [(Value.int .i64 x.q.kind), (Value.string x.q.key), (Value.string x.q.end_), (Value.string x.q.value), (Value.int .i64 x.q.lease), (Value.int .i64 x.q.rev), (Value.int .i64 x.q.limit), (Value.int .i64 x.q.sortOrder), (Value.int .i64 x.q.sortTarget), (Value.int .i64 x.q.minMod), (Value.int .i64 x.q.maxMod), (Value.int .i64 x.q.minCreate), (Value.int .i64 x.q.maxCreate), (Value.bool x.q.keysOnly), (Value.bool x.q.countOnly), (Value.bool x.q.prev), (Value.bool x.q.ignoreValue), (Value.bool x.q.ignoreLease), x.q.cmps, x.q.then_, x.q.else_] :: ro R :: F) := cast1 (P := fun (c__ : List Value) => Holds w73_ (cl b72_ 25 c__ :: cl b2_ 25 [(Value.int .i64 x.q.kind), (Value.string x.q.key), (Value.string x.q.end_), (Value.string x.q.value), (Value.int .i64 x.q.lease), (Value.int .i64 x.q.rev), (Value.int .i64 x.q.limit), (Value.int .i64 x.q.sortOrder), (Value.int .i64 x.q.sortTarget), (Value.int .i64 x.q.minMod), (Value.int .i64 x.q.maxMod), (Value.int .i64 x.q.minCreate), (Value.int .i64 x.q.maxCreate), (Value.bool x.q.keysOnly), (Value.bool x.q.countOnly), (Value.bool x.q.prev), (Value.bool x.q.ignoreValue), (Value.bool x.q.ignoreLease), x.q.cmps, x.q.then_, x.q.else_] :: ro R :: F)) (by kernel_rfl : [] = [] ++ [] ++ []) H74_
      have H78_ : Holds w73_ (sl 25 21 (Value.slice (some ⟨b72_, 0, none⟩) 0 0) 0 [] :: cl b2_ 25 [(Value.int .i64 x.q.kind), (Value.string x.q.key), (Value.string x.q.end_), (Value.string x.q.value), (Value.int .i64 x.q.lease), (Value.int .i64 x.q.rev), (Value.int .i64 x.q.limit), (Value.int .i64 x.q.sortOrder), (Value.int .i64 x.q.sortTarget), (Value.int .i64 x.q.minMod), (Value.int .i64 x.q.maxMod), (Value.int .i64 x.q.minCreate), (Value.int .i64 x.q.maxCreate), (Value.bool x.q.keysOnly), (Value.bool x.q.countOnly), (Value.bool x.q.prev), (Value.bool x.q.ignoreValue), (Value.bool x.q.ignoreLease), x.q.cmps, x.q.then_, x.q.else_] :: ro R :: F) := Holds.to_sl H77_ 0 [] [] (xs := []) (m := 0) (cap := 0) (sz := 21) rfl (by kernel_rfl) (by kernel_rfl) (by omega)
      refine A_op (ls' := #[true, true, true, true, true, true, false, false, true]) rfl (by kernel_rfl) (T_append rfl rfl Try.underlying23 z25 rfl (by decide) H78_ 0 rfl (RS.src hR.t (Holds.ro_at H78_ 2 rfl) Try.underlying23 (ones_RT hR.tt)) (by first | omega | (simp only [List.length_nil]; omega)) ?_)
      intro v79_ w80_ S82_ H81_
      have S83_ := Same.trans S76_ S82_
      refine ⟨⟨Holds.rd H81_ 1 rfl, (Holds.ro_at H81_ 2 rfl)⟩, ?_⟩
      refine A_ready (i := 6) (rs := []) (by kernel_rfl) ?_
      refine AllR.cons ?_ AllR.nil
      refine A_op (ls' := #[true, true, true, true, true, true, true, false, true]) rfl (by kernel_rfl) (T_append rfl rfl Try.underlying23 z25 rfl (by decide) H81_ 0 rfl (RS.src hR.e (Holds.ro_at H81_ 2 rfl) Try.underlying23 (ones_RT hR.ee)) (by first | omega | (simp only [List.length_nil]; omega)) ?_)
      intro v84_ w85_ S87_ H86_
      replace H86_ : Holds w85_ (sl 25 21 v84_ (0 + (List.length x.tt) + (List.length x.ee)) (([] ++ (x.tt.flatMap RT.cells)) ++ (x.ee.flatMap RT.cells)) :: cl b2_ 25 [(Value.int .i64 x.q.kind), (Value.string x.q.key), (Value.string x.q.end_), (Value.string x.q.value), (Value.int .i64 x.q.lease), (Value.int .i64 x.q.rev), (Value.int .i64 x.q.limit), (Value.int .i64 x.q.sortOrder), (Value.int .i64 x.q.sortTarget), (Value.int .i64 x.q.minMod), (Value.int .i64 x.q.maxMod), (Value.int .i64 x.q.minCreate), (Value.int .i64 x.q.maxCreate), (Value.bool x.q.keysOnly), (Value.bool x.q.countOnly), (Value.bool x.q.prev), (Value.bool x.q.ignoreValue), (Value.bool x.q.ignoreLease), x.q.cmps, x.q.then_, x.q.else_] :: ro R :: F) := H86_
      have S88_ := Same.trans S83_ S87_
      refine ⟨⟨Holds.rd H86_ 1 rfl, (Holds.ro_at H86_ 2 rfl)⟩, ?_⟩
      refine A_ready (i := 7) (rs := []) (by kernel_rfl) ?_
      refine AllR.cons ?_ AllR.nil
      refine A_op (ls' := #[true, true, true, true, true, true, true, true, true]) rfl (by kernel_rfl) (T_val (v := (Value.int .i64 (0 + (List.length x.tt) + (List.length x.ee) : Int))) (x_lenSl rfl H86_ 0 rfl Try.underlying23) ?_)
      refine ⟨⟨Holds.rd H86_ 1 rfl, (Holds.ro_at H86_ 2 rfl)⟩, ?_⟩
      refine A_done (by kernel_rfl) ?_
      refine (X_then (hK69_ _ _ ?_))
      clear hK69_
      refine C_block ?_
      have hcc2 : ¬ x.cc.any (fun c => decide (c.key.size = 0)) = true := by rw [List.take_of_length_le (by omega)] at hcc; exact hcc
      have H89_ := Holds.resl H86_ 0 rfl (by simp [List.flatMap_append] : ([] ++ (x.tt.flatMap RT.cells)) ++ (x.ee.flatMap RT.cells) = (x.tt ++ x.ee).flatMap RT.cells) (by simp [List.length_append] : 0 + (List.length x.tt) + (List.length x.ee) = (List.length (x.tt ++ x.ee)))
      have H90_ := ((Holds.bring H89_ 2 rfl) :)
      obtain ⟨R91_, hs92_, ⟨R93_, ha94_, hs95_⟩, H96_⟩ := Holds.gift H90_
      have hr97_ : RS R91_ 21 v84_ (List.length (x.tt ++ x.ee)) ((x.tt ++ x.ee).flatMap RT.cells) := (sl_RS ha94_ (Sub.rfl' _)).mono hs95_
      have hWl : (x.tt ++ x.ee).length = x.tt.length + x.ee.length := List.length_append
      have hRW : RAts R91_ (x.tt ++ x.ee) := RAts.mono hs92_ (RAts.app hR.tt hR.ee)
      have hPW : ∀ y ∈ x.tt ++ x.ee, Pln y := fun y hy => (List.mem_append.1 hy).elim (hP.tt h4_ y) (hP.ee h4_ y)
      have H98_ : Holds w85_ (ro R91_ :: F) := (Holds.pkF H96_ [0] 1 :)
      refine C_loop (γ := Nat × Int) (fun x__ a__ w1__ => match x__ with | ⟨k2, t4_v⟩ => ∃ h : Env, a__ = mkA 110 (upd (upd (upd (upd (upd (upd h 1 (Value.int .i64 most)) 4 (Value.int .i64 t4_v)) 5 (Value.int .i64 (mxT x : Int))) 95 v84_) 96 (Value.int .i64 (0 + (List.length x.tt) + (List.length x.ee) : Int))) 97 (Value.int .i64 (k2 : Int))) [] ∧ Holds w1__ (ro R91_ :: F) ∧ Same w w1__ ∧ (k2 ≤ (x.tt ++ x.ee).length) ∧ (refL (x.tt ++ x.ee) (most - (mxT x : Int)) = refL ((x.tt ++ x.ee).drop k2) (most - (mxT x : Int)))) (fun x__ => match x__ with | ⟨k2, t4_v⟩ => (x.tt ++ x.ee).length - k2) (⟨0, t4_v⟩) ⟨_, congrArg (fun e => mkA 110 e []) (ch (ch (ch (ch (ch (ch rfl rfl) rfl) rfl) rfl) rfl) (congrArg (Value.int .i64) ((by first | rfl | omega | (simp; done) | (simp; omega)) : 0 = (0 : Int)))), H98_, S88_, (by first | assumption | omega | exact rfl), (by rw [List.drop_zero])⟩ ?_
      rintro ⟨k2, t4_v⟩ _ w99_ ⟨h, rfl, H100_, S101_, hk2, hin⟩
      refine C_seq (fun K102_ hK102_ => ?_)
      refine C_reg ?_
      refine S_list (T_val (v := (Value.bool (decide ((k2 : Int) < (0 + (List.length x.tt) + (List.length x.ee) : Int))))) (x_bin rfl rfl rfl) ?_)
      refine wpList_nil ?_
      refine (X_then (hK102_ _ _ ?_))
      clear hK102_
      refine C_seq (fun K103_ hK103_ => ?_)
      refine C_cond (b := decide ((k2 : Int) < (0 + (List.length x.tt) + (List.length x.ee) : Int))) rfl (fun c104_t => ?_) (fun c104_f => ?_)
      ·have c104_tp : (k2 : Int) < (0 + (List.length x.tt) + (List.length x.ee) : Int) := of_decide_eq_true c104_t
       refine C_skip (X_then (hK103_ _ _ ?_))
       clear hK103_
       refine C_seq (fun K105_ hK105_ => ?_)
       refine C_block ?_
       refine C_seq (fun K106_ hK106_ => ?_)
       refine C_reg ?_
       obtain ⟨x107_, hx108_, hm109_⟩ := elem_at (x.tt ++ x.ee) k2 (by omega)
       have := RT.sz_mem hm109_
       have hra110_ := hRW x107_ hm109_
       have hys_ : x107_.sz < x.sz := by rcases List.mem_append.1 hm109_ with h | h <;> (have := RT.sz_mem h; omega)
       have hyp_ := hPW x107_ hm109_
       refine S_list (T_val (v := (Value.pointer (some ⟨(sb v84_), so v84_ + (k2 * 21 + 0), none⟩))) (x_idxRS (v := v84_) rfl hr97_ rfl Try.underlying23 z25 (by omega) (by omega) (by omega : _ = k2) rfl) ?_)
       refine S_list (T_val (v := (Value.agg #[(Value.int .i64 x107_.q.kind), (Value.string x107_.q.key), (Value.string x107_.q.end_), (Value.string x107_.q.value), (Value.int .i64 x107_.q.lease), (Value.int .i64 x107_.q.rev), (Value.int .i64 x107_.q.limit), (Value.int .i64 x107_.q.sortOrder), (Value.int .i64 x107_.q.sortTarget), (Value.int .i64 x107_.q.minMod), (Value.int .i64 x107_.q.maxMod), (Value.int .i64 x107_.q.minCreate), (Value.int .i64 x107_.q.maxCreate), (Value.bool x107_.q.keysOnly), (Value.bool x107_.q.countOnly), (Value.bool x107_.q.prev), (Value.bool x107_.q.ignoreValue), (Value.bool x107_.q.ignoreLease), x107_.q.cmps, x107_.q.then_, x107_.q.else_])) (x_loadN (vs := [(Value.int .i64 x107_.q.kind), (Value.string x107_.q.key), (Value.string x107_.q.end_), (Value.string x107_.q.value), (Value.int .i64 x107_.q.lease), (Value.int .i64 x107_.q.rev), (Value.int .i64 x107_.q.limit), (Value.int .i64 x107_.q.sortOrder), (Value.int .i64 x107_.q.sortTarget), (Value.int .i64 x107_.q.minMod), (Value.int .i64 x107_.q.maxMod), (Value.int .i64 x107_.q.minCreate), (Value.int .i64 x107_.q.maxCreate), (Value.bool x107_.q.keysOnly), (Value.bool x107_.q.countOnly), (Value.bool x107_.q.prev), (Value.bool x107_.q.ignoreValue), (Value.bool x107_.q.ignoreLease), x107_.q.cmps, x107_.q.then_, x107_.q.else_]) rfl Try.underlying25 rfl z25 rfl (RC.cells (RS.rc hr97_) (Holds.ro_at H100_ 0 rfl) (k2 * 21 + 0) (fm_cells RT.len hx108_ (i := 0) rfl))) ?_)
       refine S_list (T_alloc z25 H100_ ?_)
       intro b111_ w112_ S114_ H113_
       have S115_ := Same.trans S101_ S114_
       refine S_list0 (T_storeN (vs := [(Value.int .i64 x107_.q.kind), (Value.string x107_.q.key), (Value.string x107_.q.end_), (Value.string x107_.q.value), (Value.int .i64 x107_.q.lease), (Value.int .i64 x107_.q.rev), (Value.int .i64 x107_.q.limit), (Value.int .i64 x107_.q.sortOrder), (Value.int .i64 x107_.q.sortTarget), (Value.int .i64 x107_.q.minMod), (Value.int .i64 x107_.q.maxMod), (Value.int .i64 x107_.q.minCreate), (Value.int .i64 x107_.q.maxCreate), (Value.bool x107_.q.keysOnly), (Value.bool x107_.q.countOnly), (Value.bool x107_.q.prev), (Value.bool x107_.q.ignoreValue), (Value.bool x107_.q.ignoreLease), x107_.q.cmps, x107_.q.then_, x107_.q.else_]) rfl rfl z25 rfl (List.forall_mem_cons.2 ⟨rfl, (List.forall_mem_cons.2 ⟨rfl, (List.forall_mem_cons.2 ⟨rfl, (List.forall_mem_cons.2 ⟨rfl, (List.forall_mem_cons.2 ⟨rfl, (List.forall_mem_cons.2 ⟨rfl, (List.forall_mem_cons.2 ⟨rfl, (List.forall_mem_cons.2 ⟨rfl, (List.forall_mem_cons.2 ⟨rfl, (List.forall_mem_cons.2 ⟨rfl, (List.forall_mem_cons.2 ⟨rfl, (List.forall_mem_cons.2 ⟨rfl, (List.forall_mem_cons.2 ⟨rfl, (List.forall_mem_cons.2 ⟨rfl, (List.forall_mem_cons.2 ⟨rfl, (List.forall_mem_cons.2 ⟨rfl, (List.forall_mem_cons.2 ⟨rfl, (List.forall_mem_cons.2 ⟨rfl, (List.forall_mem_cons.2 ⟨(RS.one (hra110_.c)), (List.forall_mem_cons.2 ⟨(RS.one (hra110_.t)), (List.forall_mem_cons.2 ⟨(RS.one (hra110_.e)), (fun _ h__ => by cases h__)⟩)⟩)⟩)⟩)⟩)⟩)⟩)⟩)⟩)⟩)⟩)⟩)⟩)⟩)⟩)⟩)⟩)⟩)⟩)⟩)⟩) H113_ 0 rfl (Nat.le_of_ble_eq_true (by rfl)) ?_)
       intro w116_ S118_ H117_
       have S119_ := Same.trans S115_ S118_
       refine wpList_nil ?_
       refine (X_then (hK106_ _ _ ?_))
       clear hK106_
       refine C_seq (fun K120_ hK120_ => ?_)
       refine C_reg ?_
       refine S_list (T_val (v := (Value.agg #[(Value.int .i64 x107_.q.kind), (Value.string x107_.q.key), (Value.string x107_.q.end_), (Value.string x107_.q.value), (Value.int .i64 x107_.q.lease), (Value.int .i64 x107_.q.rev), (Value.int .i64 x107_.q.limit), (Value.int .i64 x107_.q.sortOrder), (Value.int .i64 x107_.q.sortTarget), (Value.int .i64 x107_.q.minMod), (Value.int .i64 x107_.q.maxMod), (Value.int .i64 x107_.q.minCreate), (Value.int .i64 x107_.q.maxCreate), (Value.bool x107_.q.keysOnly), (Value.bool x107_.q.countOnly), (Value.bool x107_.q.prev), (Value.bool x107_.q.ignoreValue), (Value.bool x107_.q.ignoreLease), x107_.q.cmps, x107_.q.then_, x107_.q.else_])) (x_loadN (vs := [(Value.int .i64 x107_.q.kind), (Value.string x107_.q.key), (Value.string x107_.q.end_), (Value.string x107_.q.value), (Value.int .i64 x107_.q.lease), (Value.int .i64 x107_.q.rev), (Value.int .i64 x107_.q.limit), (Value.int .i64 x107_.q.sortOrder), (Value.int .i64 x107_.q.sortTarget), (Value.int .i64 x107_.q.minMod), (Value.int .i64 x107_.q.maxMod), (Value.int .i64 x107_.q.minCreate), (Value.int .i64 x107_.q.maxCreate), (Value.bool x107_.q.keysOnly), (Value.bool x107_.q.countOnly), (Value.bool x107_.q.prev), (Value.bool x107_.q.ignoreValue), (Value.bool x107_.q.ignoreLease), x107_.q.cmps, x107_.q.then_, x107_.q.else_]) rfl Try.underlying25 rfl z25 rfl (Rd.cells (Holds.rd H117_ 0 rfl) 0 rfl)) ?_)
       refine S_list (T_val (v := (Value.int .i64 most)) (x_move rfl) ?_)
       refine S_list (T_val (v := (Value.int .i64 (mxT x : Int))) (x_move rfl) ?_)
       refine S_list (T_val (v := (Value.int .i64 (most - (mxT x : Int)))) (x_bin rfl rfl (ib_sub (IntWalk.i64_in _ (by omega)))) ?_)
       have H122_ := ((Holds.bring H117_ 1 rfl) :)
       replace H122_ : Holds w116_ (ro R91_ :: cl b111_ 25 [(Value.int .i64 x107_.q.kind), (Value.string x107_.q.key), (Value.string x107_.q.end_), (Value.string x107_.q.value), (Value.int .i64 x107_.q.lease), (Value.int .i64 x107_.q.rev), (Value.int .i64 x107_.q.limit), (Value.int .i64 x107_.q.sortOrder), (Value.int .i64 x107_.q.sortTarget), (Value.int .i64 x107_.q.minMod), (Value.int .i64 x107_.q.maxMod), (Value.int .i64 x107_.q.minCreate), (Value.int .i64 x107_.q.maxCreate), (Value.bool x107_.q.keysOnly), (Value.bool x107_.q.countOnly), (Value.bool x107_.q.prev), (Value.bool x107_.q.ignoreValue), (Value.bool x107_.q.ignoreLease), x107_.q.cmps, x107_.q.then_, x107_.q.else_] :: F) := H122_
       refine S_list (T_call (al := [(Value.agg #[(Value.int .i64 x107_.q.kind), (Value.string x107_.q.key), (Value.string x107_.q.end_), (Value.string x107_.q.value), (Value.int .i64 x107_.q.lease), (Value.int .i64 x107_.q.rev), (Value.int .i64 x107_.q.limit), (Value.int .i64 x107_.q.sortOrder), (Value.int .i64 x107_.q.sortTarget), (Value.int .i64 x107_.q.minMod), (Value.int .i64 x107_.q.maxMod), (Value.int .i64 x107_.q.minCreate), (Value.int .i64 x107_.q.maxCreate), (Value.bool x107_.q.keysOnly), (Value.bool x107_.q.countOnly), (Value.bool x107_.q.prev), (Value.bool x107_.q.ignoreValue), (Value.bool x107_.q.ignoreLease), x107_.q.cmps, x107_.q.then_, x107_.q.else_]), (Value.int .i64 (most - (mxT x : Int)))]) (pre := []) rfl rfl cb16 (ih R91_ x107_ (most - (mxT x : Int)) ((hRW x107_ hm109_)) (hyp_) (by omega) (by omega)) H122_ ?_)
       rintro v121_ p126_ w123_ ⟨rfl, rfl⟩ S125_ H124_
       have S127_ := Same.trans S119_ S125_
       refine S_list (T_val (v := (Value.int .i64 (refT x107_ (most - (mxT x : Int))))) (x_assign rfl) ?_)
       refine wpList_nil ?_
       refine (X_then (hK120_ _ _ ?_))
       clear hK120_
       refine C_seq (fun K128_ hK128_ => ?_)
       refine C_reg ?_
       refine S_list (T_val (v := (Value.int .i64 (refT x107_ (most - (mxT x : Int))))) (x_move rfl) ?_)
       refine S_list (T_val (v := (Value.bool (decide (refT x107_ (most - (mxT x : Int)) ≠ 0)))) (x_bin rfl rfl rfl) ?_)
       refine wpList_nil ?_
       refine (X_then (hK128_ _ _ ?_))
       clear hK128_
       refine C_cond (b := decide (refT x107_ (most - (mxT x : Int)) ≠ 0)) rfl (fun c129_t => ?_) (fun c129_f => ?_)
       ·have c129_tp : refT x107_ (most - (mxT x : Int)) ≠ 0 := of_decide_eq_true c129_t
        refine C_seq (fun K130_ hK130_ => ?_)
        refine C_reg ?_
        refine S_list (T_val (v := (Value.int .i64 (refT x107_ (most - (mxT x : Int))))) (x_move rfl) ?_)
        refine S_list (T_val (v := (Value.int .i64 (refT x107_ (most - (mxT x : Int))))) (x_assign rfl) ?_)
        refine wpList_nil ?_
        refine (X_then (hK130_ _ _ ?_))
        clear hK130_
        refine C_ret (X_blkR (X_thenR (X_thenR (X_blkR (X_thenR ?_)))))
        refine R_any (v := (Value.int .i64 (refT x107_ (most - (mxT x : Int))))) (run_results1 rfl rfl) ?_
        have h4_ : x.q.kind = 4 := by omega
        have H131_ : Holds w123_ (ro R :: cl b111_ 25 [(Value.int .i64 x107_.q.kind), (Value.string x107_.q.key), (Value.string x107_.q.end_), (Value.string x107_.q.value), (Value.int .i64 x107_.q.lease), (Value.int .i64 x107_.q.rev), (Value.int .i64 x107_.q.limit), (Value.int .i64 x107_.q.sortOrder), (Value.int .i64 x107_.q.sortTarget), (Value.int .i64 x107_.q.minMod), (Value.int .i64 x107_.q.maxMod), (Value.int .i64 x107_.q.minCreate), (Value.int .i64 x107_.q.maxCreate), (Value.bool x107_.q.keysOnly), (Value.bool x107_.q.countOnly), (Value.bool x107_.q.prev), (Value.bool x107_.q.ignoreValue), (Value.bool x107_.q.ignoreLease), x107_.q.cmps, x107_.q.then_, x107_.q.else_] :: F) := Holds.ro_less H124_ hs92_
        have H132_ : Holds w123_ (ro R :: F) := (Holds.pkF H131_ [0] 1 :)
        exact ⟨_, _, rfl, ⟨(congrArg (Value.int .i64) ((ref_all h4_ (by omega) hcc2 hin hx108_ rfl (by omega)) : refT x107_ (most - (mxT x : Int)) = refT x most)), rfl⟩, S127_, H132_⟩
       ·have c129_fp : ¬ (refT x107_ (most - (mxT x : Int)) ≠ 0) := of_decide_eq_false c129_f
        refine C_skip (X_blkN (X_then (hK105_ _ _ ?_)))
        clear hK105_
        refine C_reg ?_
        refine S_list (T_val (v := (Value.int .i64 ((k2 : Int) + 1))) (x_bin rfl rfl (ib_add (IntWalk.i64_in _ (by omega)))) ?_)
        refine S_list (T_val (v := (Value.int .i64 ((k2 : Int) + 1))) (x_move rfl) ?_)
        refine wpList_nil ?_
        refine (X_then ?_)
        have H133_ : Holds w123_ (ro R91_ :: F) := (Holds.pkF H124_ [0] 1 :)
        exact ⟨⟨k2 + 1, t4_v⟩, ⟨_, congrArg (fun e => mkA 110 e []) (ch (ch (ch (ch (ch (ch rfl rfl) rfl) rfl) rfl) rfl) (congrArg (Value.int .i64) ((by first | rfl | omega | (simp; done) | (simp; omega)) : (k2 : Int) + 1 = ((k2 + 1 : Nat) : Int)))), H133_, S127_, (by first | assumption | omega | exact rfl), (by rw [hin, ref_go hx108_ (by omega)])⟩, by first | omega | (dsimp only; omega) | (simp; omega)⟩
      ·have c104_fp : ¬ ((k2 : Int) < (0 + (List.length x.tt) + (List.length x.ee) : Int)) := of_decide_eq_false c104_f
       refine C_exit (X_thenX (X_thenX (X_blkHit ?_)))
       refine (X_then (hK68_ _ _ ?_))
       clear hK68_
       refine C_seq (fun K134_ hK134_ => ?_)
       refine C_reg ?_
       refine S_list (T_val (v := (Value.int .i64 0)) (x_assign rfl) ?_)
       refine wpList_nil ?_
       refine (X_then (hK134_ _ _ ?_))
       clear hK134_
       refine C_ret ?_
       refine R_any (v := (Value.int .i64 0)) (run_results1 rfl rfl) ?_
       have h4_ : x.q.kind = 4 := by omega
       have H135_ : Holds w99_ (ro R :: F) := Holds.ro_less H100_ hs92_
       exact ⟨_, _, rfl, ⟨(congrArg (Value.int .i64) ((ref_allok h4_ (by omega) hcc2 (by rw [hin, ref_end (by omega)])) : 0 = refT x most)), rfl⟩, S101_, H135_⟩

theorem ckRefused (R : HP) (x : RT) (most : Int) (hR : RAt R x) (hP : Pln x) (hmo : 0 ≤ most ∧ most ≤ 1048576) : Tri Try.prog 16 #[(Value.agg #[(Value.int .i64 x.q.kind), (Value.string x.q.key), (Value.string x.q.end_), (Value.string x.q.value), (Value.int .i64 x.q.lease), (Value.int .i64 x.q.rev), (Value.int .i64 x.q.limit), (Value.int .i64 x.q.sortOrder), (Value.int .i64 x.q.sortTarget), (Value.int .i64 x.q.minMod), (Value.int .i64 x.q.maxMod), (Value.int .i64 x.q.minCreate), (Value.int .i64 x.q.maxCreate), (Value.bool x.q.keysOnly), (Value.bool x.q.countOnly), (Value.bool x.q.prev), (Value.bool x.q.ignoreValue), (Value.bool x.q.ignoreLease), x.q.cmps, x.q.then_, x.q.else_]), (Value.int .i64 most)] R [] (fun v__ post__ => v__ = (Value.int .i64 (refT x most)) ∧ post__ = []) := by
  have key : ∀ (n__ : Nat) (R : HP) (x : RT) (most : Int) (hR : RAt R x) (hP : Pln x) (hmo : 0 ≤ most ∧ most ≤ 1048576) (hn__ : x.sz = n__), Tri Try.prog 16 #[(Value.agg #[(Value.int .i64 x.q.kind), (Value.string x.q.key), (Value.string x.q.end_), (Value.string x.q.value), (Value.int .i64 x.q.lease), (Value.int .i64 x.q.rev), (Value.int .i64 x.q.limit), (Value.int .i64 x.q.sortOrder), (Value.int .i64 x.q.sortTarget), (Value.int .i64 x.q.minMod), (Value.int .i64 x.q.maxMod), (Value.int .i64 x.q.minCreate), (Value.int .i64 x.q.maxCreate), (Value.bool x.q.keysOnly), (Value.bool x.q.countOnly), (Value.bool x.q.prev), (Value.bool x.q.ignoreValue), (Value.bool x.q.ignoreLease), x.q.cmps, x.q.then_, x.q.else_]), (Value.int .i64 most)] R [] (fun v__ post__ => v__ = (Value.int .i64 (refT x most)) ∧ post__ = []) := by
    intro n__
    induction n__ using Nat.strongRecOn with
    | ind n__ ih => intro R x most hR hP hmo hn__; exact ckRefused_step R x most n__ hR hP hmo (Nat.le_of_eq hn__) (fun R x most hR hP hmo hms => ih _ hms R x most hR hP hmo rfl)
  exact key _ R x most hR hP hmo rfl
end Go.Proofs.Ytlnihndjepjagaa
