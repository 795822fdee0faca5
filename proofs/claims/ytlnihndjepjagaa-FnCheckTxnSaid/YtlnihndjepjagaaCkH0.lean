/- A transaction as the server reads it. -/
import Derived.Test.YtlnihndjepjagaaCkG0
set_option linter.unusedVariables false
set_option linter.unusedSimpArgs false
namespace Go.Proofs.Ytlnihndjepjagaa
open Go Go.RowKit Gw

theorem RAts.mono {R R' : HP} (s : Sub R R') {L : List RT} (h : RAts R L) : RAts R' L := fun y hy => (h y hy).mono s
theorem Pln.all {R : HP} {x : RT} (h : Pln x) (h4 : x.q.kind = 4) : (∀ y ∈ x.tt, Pln y) ∧ (∀ y ∈ x.ee, Pln y) := ⟨h.tt h4, h.ee h4⟩

set_option maxHeartbeats 2000000 in
theorem ckTxnIn (R : HP) (x : RT) (n__ : Nat) (hR : RAt R x) (hP : Pln x) (h4 : x.q.kind = 4) (hsx : x.sz ≤ n__) (ih : ∀ (R : HP) (v : Value) (L : List RT) (hL : RS R 21 v (List.length L) (L.flatMap RT.cells)) (hR : RAts R L) (hl : L.length ≤ 200) (hP : ∀ y ∈ L, Pln y) (hms : lsz L < n__), TriG Try.prog 50 #[v] R [] (fun R' v__ post__ => ∃ (v' : Value) (T : List Nat), v__ = v' ∧ post__ = [] ∧ (RS R' 1 v' (List.length T) (T.map pv)) ∧ (All2 (OpAt R') T L))) :
    TriG Try.prog 48 #[(Value.agg #[(Value.int .i64 x.q.kind), (Value.string x.q.key), (Value.string x.q.end_), (Value.string x.q.value), (Value.int .i64 x.q.lease), (Value.int .i64 x.q.rev), (Value.int .i64 x.q.limit), (Value.int .i64 x.q.sortOrder), (Value.int .i64 x.q.sortTarget), (Value.int .i64 x.q.minMod), (Value.int .i64 x.q.maxMod), (Value.int .i64 x.q.minCreate), (Value.int .i64 x.q.maxCreate), (Value.bool x.q.keysOnly), (Value.bool x.q.countOnly), (Value.bool x.q.prev), (Value.bool x.q.ignoreValue), (Value.bool x.q.ignoreLease), x.q.cmps, x.q.then_, x.q.else_])] R [] (fun R' v__ post__ => ∃ (b' : Nat), v__ = (Value.pointer (some ⟨b', 0, none⟩)) ∧ post__ = [] ∧ (TxnAt R' b' x)) := by
 have hb_ := hP.b h4
 refine TriG.into (n := 42) (al := [(Value.agg #[(Value.int .i64 x.q.kind), (Value.string x.q.key), (Value.string x.q.end_), (Value.string x.q.value), (Value.int .i64 x.q.lease), (Value.int .i64 x.q.rev), (Value.int .i64 x.q.limit), (Value.int .i64 x.q.sortOrder), (Value.int .i64 x.q.sortTarget), (Value.int .i64 x.q.minMod), (Value.int .i64 x.q.maxMod), (Value.int .i64 x.q.minCreate), (Value.int .i64 x.q.maxCreate), (Value.bool x.q.keysOnly), (Value.bool x.q.countOnly), (Value.bool x.q.prev), (Value.bool x.q.ignoreValue), (Value.bool x.q.ignoreLease), x.q.cmps, x.q.then_, x.q.else_])]) Try.func48 rfl Try.ntmps48 rfl rfl fun w F H => ?_
 refine C_seq (fun K1_ hK1_ => ?_)
 refine C_reg ?_
 refine S_list (T_box (v := (Value.agg #[(Value.int .i64 x.q.kind), (Value.string x.q.key), (Value.string x.q.end_), (Value.string x.q.value), (Value.int .i64 x.q.lease), (Value.int .i64 x.q.rev), (Value.int .i64 x.q.limit), (Value.int .i64 x.q.sortOrder), (Value.int .i64 x.q.sortTarget), (Value.int .i64 x.q.minMod), (Value.int .i64 x.q.maxMod), (Value.int .i64 x.q.minCreate), (Value.int .i64 x.q.maxCreate), (Value.bool x.q.keysOnly), (Value.bool x.q.countOnly), (Value.bool x.q.prev), (Value.bool x.q.ignoreValue), (Value.bool x.q.ignoreLease), x.q.cmps, x.q.then_, x.q.else_])) rfl H ?_)
 intro b2_ w3_ S5_ H4_
 have S6_ := Same.trans (Same.refl w) S5_
 refine S_list (T_val (v := (Value.pointer none)) (x_assign rfl) ?_)
 refine wpList_nil ?_
 refine (X_then (hK1_ _ _ ?_))
 clear hK1_
 refine C_seq (fun K7_ hK7_ => ?_)
 refine C_reg ?_
 refine S_list (T_val (v := (Value.agg #[(Value.slice none 0 0), (Value.slice none 0 0), (Value.slice none 0 0)])) (by kernel_rfl) ?_)
 refine S_list (T_box (v := (Value.agg #[(Value.slice none 0 0), (Value.slice none 0 0), (Value.slice none 0 0)])) rfl H4_ ?_)
 intro b8_ w9_ S11_ H10_
 replace H10_ : Holds w9_ (cl b8_ 146 [(Value.slice none 0 0), (Value.slice none 0 0), (Value.slice none 0 0)] :: cl b2_ 25 [(Value.int .i64 x.q.kind), (Value.string x.q.key), (Value.string x.q.end_), (Value.string x.q.value), (Value.int .i64 x.q.lease), (Value.int .i64 x.q.rev), (Value.int .i64 x.q.limit), (Value.int .i64 x.q.sortOrder), (Value.int .i64 x.q.sortTarget), (Value.int .i64 x.q.minMod), (Value.int .i64 x.q.maxMod), (Value.int .i64 x.q.minCreate), (Value.int .i64 x.q.maxCreate), (Value.bool x.q.keysOnly), (Value.bool x.q.countOnly), (Value.bool x.q.prev), (Value.bool x.q.ignoreValue), (Value.bool x.q.ignoreLease), x.q.cmps, x.q.then_, x.q.else_] :: ro R :: F) := H10_
 have S12_ := Same.trans S6_ S11_
 refine S_list (T_val (v := (Value.pointer (some ⟨b8_, 0, none⟩))) (x_assign rfl) ?_)
 refine wpList_nil ?_
 refine (X_then (hK7_ _ _ ?_))
 clear hK7_
 refine C_seq (fun K13_ hK13_ => ?_)
 refine C_seq (fun K14_ hK14_ => ?_)
 refine C_reg ?_
 refine S_list (T_val (v := (Value.int .i64 0)) (x_assign rfl) ?_)
 refine wpList_nil ?_
 refine (X_then (hK14_ _ _ ?_))
 clear hK14_
 refine C_block ?_
 have H15_ : Holds w9_ (sl 147 1 (Value.slice none 0 0) (List.length ([] : List Nat)) (([] : List Nat).map pv) :: cl b8_ 146 [(Value.slice none 0 0), (Value.slice none 0 0), (Value.slice none 0 0)] :: cl b2_ 25 [(Value.int .i64 x.q.kind), (Value.string x.q.key), (Value.string x.q.end_), (Value.string x.q.value), (Value.int .i64 x.q.lease), (Value.int .i64 x.q.rev), (Value.int .i64 x.q.limit), (Value.int .i64 x.q.sortOrder), (Value.int .i64 x.q.sortTarget), (Value.int .i64 x.q.minMod), (Value.int .i64 x.q.maxMod), (Value.int .i64 x.q.minCreate), (Value.int .i64 x.q.maxCreate), (Value.bool x.q.keysOnly), (Value.bool x.q.countOnly), (Value.bool x.q.prev), (Value.bool x.q.ignoreValue), (Value.bool x.q.ignoreLease), x.q.cmps, x.q.then_, x.q.else_] :: ro R :: F) := Holds.add_nil H10_ 147 1
 have H16_ := Holds.recl H15_ 1 rfl ((lcons (rfl : (Value.slice none 0 0) = ((Value.slice none 0 0))) rfl) : [(Value.slice none 0 0), (Value.slice none 0 0), (Value.slice none 0 0)] = [((Value.slice none 0 0)), (Value.slice none 0 0), (Value.slice none 0 0)])
 refine C_loop (γ := HP × Nat × Value × (List Nat)) (fun x__ a__ w1__ => match x__ with | ⟨R1, k, cv, C⟩ => ∃ h : Env, a__ = mkA 42 (upd (upd (upd (upd h 1 (Value.pointer (some ⟨b2_, 0, none⟩))) 2 (Value.pointer none)) 3 (Value.pointer (some ⟨b8_, 0, none⟩))) 4 (Value.int .i64 (k : Int))) [] ∧ Holds w1__ (sl 147 1 cv (List.length C) (C.map pv) :: cl b8_ 146 [cv, (Value.slice none 0 0), (Value.slice none 0 0)] :: cl b2_ 25 [(Value.int .i64 x.q.kind), (Value.string x.q.key), (Value.string x.q.end_), (Value.string x.q.value), (Value.int .i64 x.q.lease), (Value.int .i64 x.q.rev), (Value.int .i64 x.q.limit), (Value.int .i64 x.q.sortOrder), (Value.int .i64 x.q.sortTarget), (Value.int .i64 x.q.minMod), (Value.int .i64 x.q.maxMod), (Value.int .i64 x.q.minCreate), (Value.int .i64 x.q.maxCreate), (Value.bool x.q.keysOnly), (Value.bool x.q.countOnly), (Value.bool x.q.prev), (Value.bool x.q.ignoreValue), (Value.bool x.q.ignoreLease), x.q.cmps, x.q.then_, x.q.else_] :: ro R1 :: F) ∧ Same w w1__ ∧ (Sub R R1) ∧ (k ≤ x.cc.length) ∧ (C.length = k) ∧ (All2 (CmpAt R1) C (x.cc.take k))) (fun x__ => match x__ with | ⟨R1, k, cv, C⟩ => x.cc.length - k) (⟨R, 0, (Value.slice none 0 0), ([] : List Nat)⟩) ⟨_, congrArg (fun e => mkA 42 e []) (ch (ch (ch (ch rfl rfl) rfl) rfl) (congrArg (Value.int .i64) ((by first | rfl | omega | (simp; done) | (simp; omega)) : 0 = (0 : Int)))), H16_, S12_, (Sub.rfl' _), (by first | assumption | omega | exact rfl), (rfl), (All2.nil)⟩ ?_
 rintro ⟨R1, k, cv, C⟩ _ w17_ ⟨h, rfl, H18_, S19_, hsR1, hk, hCl, hC⟩
 refine C_seq (fun K20_ hK20_ => ?_)
 refine C_seq (fun K21_ hK21_ => ?_)
 refine C_reg ?_
 refine S_list (T_val (v := (Value.int .i64 (k : Int))) (x_move rfl) ?_)
 refine S_list (T_val (v := (Value.pointer (some ⟨b2_, 18, none⟩))) (by kernel_rfl) ?_)
 refine S_list (T_val (v := x.q.cmps) (x_load1 rfl Try.underlying22 rfl ((Holds.rd H18_ 2 rfl) 18 x.q.cmps rfl)) ?_)
 refine S_list (T_val (v := (Value.int .i64 ((List.length x.cc) : Int))) (x_lenRS rfl (RS.mono hR.c hsR1) Try.underlying22) ?_)
 refine S_list (T_val (v := (Value.bool (decide ((k : Int) < ((List.length x.cc) : Int))))) (x_bin rfl rfl rfl) ?_)
 refine wpList_nil ?_
 refine (X_then (hK21_ _ _ ?_))
 clear hK21_
 refine C_cond (b := decide ((k : Int) < ((List.length x.cc) : Int))) rfl (fun c22_t => ?_) (fun c22_f => ?_)
 ·have c22_tp : (k : Int) < ((List.length x.cc) : Int) := of_decide_eq_true c22_t
  refine C_skip (X_then (hK20_ _ _ ?_))
  clear hK20_
  refine C_seq (fun K23_ hK23_ => ?_)
  refine C_block ?_
  refine A_start (S := fun w => Rd b2_ [(Value.int .i64 x.q.kind), (Value.string x.q.key), (Value.string x.q.end_), (Value.string x.q.value), (Value.int .i64 x.q.lease), (Value.int .i64 x.q.rev), (Value.int .i64 x.q.limit), (Value.int .i64 x.q.sortOrder), (Value.int .i64 x.q.sortTarget), (Value.int .i64 x.q.minMod), (Value.int .i64 x.q.maxMod), (Value.int .i64 x.q.minCreate), (Value.int .i64 x.q.maxCreate), (Value.bool x.q.keysOnly), (Value.bool x.q.countOnly), (Value.bool x.q.prev), (Value.bool x.q.ignoreValue), (Value.bool x.q.ignoreLease), x.q.cmps, x.q.then_, x.q.else_] w ∧ Sub R1 (hp w)) (N := 16) foll rfl rfl ?_
  have H24_ := Holds.drew_ H18_
  have hq25_ := And.intro (Holds.rd H24_ 2 rfl) ((Holds.ro_at H24_ 3 rfl))
  refine A_tk 0 (v := (Value.pointer (some ⟨b8_, 0, none⟩))) rfl (by kernel_rfl) (fun w hS => x_move rfl) hq25_ ?_
  refine A_tk 1 (v := (Value.pointer (some ⟨b8_, 0, none⟩))) rfl (by kernel_rfl) (fun w hS => x_move rfl) hq25_ ?_
  refine A_tk 2 (v := (Value.pointer (some ⟨b8_, 0, none⟩))) rfl (by kernel_rfl) (fun w hS => by kernel_rfl) hq25_ ?_
  refine A_tk 3 (v := (Value.pointer (some ⟨b8_, 0, none⟩))) rfl (by kernel_rfl) (fun w hS => by kernel_rfl) hq25_ ?_
  refine A_tk 5 (v := (Value.pointer (some ⟨b2_, 18, none⟩))) rfl (by kernel_rfl) (fun w hS => by kernel_rfl) hq25_ ?_
  refine A_tk 6 (v := x.q.cmps) rfl (by kernel_rfl) (fun w hS => x_load1 rfl Try.underlying22 rfl (hS.1 18 x.q.cmps rfl)) hq25_ ?_
  refine A_tk 7 (v := (Value.int .i64 (k : Int))) rfl (by kernel_rfl) (fun w hS => x_move rfl) hq25_ ?_
  obtain ⟨x26_, hx27_, hm28_⟩ := elem_at x.cc k (by omega)
  refine A_tk 8 (v := (Value.pointer (some ⟨(sb x.q.cmps), so x.q.cmps + (k * 7 + 0), none⟩))) rfl (by kernel_rfl) (fun w hS => x_idxRS (v := x.q.cmps) rfl (RS.mono hR.c hsR1) rfl Try.underlying22 z98 (by omega) (by omega) (by omega : _ = k) rfl) hq25_ ?_
  refine A_tk 9 (v := (Value.agg #[(Value.int .i64 x26_.target), (Value.int .i64 x26_.result), (Value.string x26_.key), (Value.string x26_.end_), (Value.int .i64 x26_.n), (Value.string x26_.value), (Value.bool x26_.bare)])) rfl (by kernel_rfl) (fun w hS => x_loadN (vs := [(Value.int .i64 x26_.target), (Value.int .i64 x26_.result), (Value.string x26_.key), (Value.string x26_.end_), (Value.int .i64 x26_.n), (Value.string x26_.value), (Value.bool x26_.bare)]) rfl Try.underlying98 rfl z98 rfl (RC.cells (RS.rc (RS.mono hR.c hsR1)) hS.2 (k * 7 + 0) (fm_cells CM.len hx27_ (i := 0) rfl))) hq25_ ?_
  refine A_ready (i := 4) (rs := [10]) (by kernel_rfl) ?_
  refine AllR.cons ?_ ?_
  ·skip
   refine A_op (ls' := #[true, true, true, true, true, true, true, true, true, true, false, false, false, false, false, false]) rfl (by kernel_rfl) (T_val (v := cv) (x_load1 rfl Try.underlying144 rfl ((Holds.rd H24_ 1 rfl) 0 cv rfl)) ?_)
   refine ⟨⟨Holds.rd H24_ 2 rfl, (Holds.ro_at H24_ 3 rfl)⟩, ?_⟩
   refine A_ready (i := 10) (rs := []) (by kernel_rfl) ?_
   refine AllR.cons ?_ AllR.nil
   have H34_ := ((Holds.bring H24_ 3 rfl) :)
   refine A_op (ls' := #[true, true, true, true, true, true, true, true, true, true, true, false, false, false, false, false]) rfl (by kernel_rfl) (T_callG (al := [(Value.agg #[(Value.int .i64 x26_.target), (Value.int .i64 x26_.result), (Value.string x26_.key), (Value.string x26_.end_), (Value.int .i64 x26_.n), (Value.string x26_.value), (Value.bool x26_.bare)])]) (pre := []) rfl rfl cb73 (ckCmpIn R1 x26_) H34_ ?_)
   rintro R30_ v31_ p38_ w35_ hs29_ ⟨b32_, rfl, rfl, he33_⟩ S37_ H36_
   replace H36_ : Holds w35_ (ro R30_ :: sl 147 1 cv (List.length C) (C.map pv) :: cl b8_ 146 [cv, (Value.slice none 0 0), (Value.slice none 0 0)] :: cl b2_ 25 [(Value.int .i64 x.q.kind), (Value.string x.q.key), (Value.string x.q.end_), (Value.string x.q.value), (Value.int .i64 x.q.lease), (Value.int .i64 x.q.rev), (Value.int .i64 x.q.limit), (Value.int .i64 x.q.sortOrder), (Value.int .i64 x.q.sortTarget), (Value.int .i64 x.q.minMod), (Value.int .i64 x.q.maxMod), (Value.int .i64 x.q.minCreate), (Value.int .i64 x.q.maxCreate), (Value.bool x.q.keysOnly), (Value.bool x.q.countOnly), (Value.bool x.q.prev), (Value.bool x.q.ignoreValue), (Value.bool x.q.ignoreLease), x.q.cmps, x.q.then_, x.q.else_] :: F) := H36_
   have S39_ := Same.trans (Same.trans S19_ (Same.drew _)) S37_
   have hz_R_R30_ := Sub.trans' hsR1 hs29_
   refine ⟨⟨Holds.rd H36_ 3 rfl, (Sub.trans' hs29_ (Holds.ro_at H36_ 0 rfl))⟩, ?_⟩
   refine A_ready (i := 11) (rs := []) (by kernel_rfl) ?_
   refine AllR.cons ?_ AllR.nil
   refine A_op (ls' := #[true, true, true, true, true, true, true, true, true, true, true, true, false, false, false, false]) rfl (by kernel_rfl) (T_new (obj := .cells #[(Value.pointer (some ⟨b32_, 0, none⟩))] 147) (f := fun b__ => .slice (some ⟨b__, 0, none⟩) 1 1) (A := fun b__ => cl b__ 147 [(Value.pointer (some ⟨b32_, 0, none⟩))]) (by kernel_rfl) (fun l h => h.alloc _ _) H36_ ?_)
   intro b40_ w41_ S43_ H42_
   have S44_ := Same.trans S39_ S43_
   refine ⟨⟨Holds.rd H42_ 4 rfl, (Sub.trans' hs29_ (Holds.ro_at H42_ 1 rfl))⟩, ?_⟩
   refine A_ready (i := 12) (rs := []) (by kernel_rfl) ?_
   refine AllR.cons ?_ AllR.nil
   refine A_op (ls' := #[true, true, true, true, true, true, true, true, true, true, true, true, true, false, false, false]) rfl (by kernel_rfl) (T_append rfl rfl Try.underlying144 z147 rfl (by decide) H42_ 2 rfl (Holds.cl_src H42_ 0 rfl Try.underlying144 (by simp [Value.oneCell']) rfl) (by first | omega | (simp only [List.length_append, List.length_cons, List.length_nil]; omega)) ?_)
   intro v45_ w46_ S48_ H47_
   have S49_ := Same.trans S44_ S48_
   refine ⟨⟨Holds.rd H47_ 4 rfl, (Sub.trans' hs29_ (Holds.ro_at H47_ 1 rfl))⟩, ?_⟩
   have hq50_ := And.intro (Holds.rd H47_ 4 rfl) ((Sub.trans' hs29_ (Holds.ro_at H47_ 1 rfl)))
   refine A_tk 13 (v := (Value.pointer (some ⟨b8_, 0, none⟩))) rfl (by kernel_rfl) (fun w hS => by kernel_rfl) hq50_ ?_
   refine A_tk 14 (v := (Value.pointer (some ⟨b8_, 0, none⟩))) rfl (by kernel_rfl) (fun w hS => by kernel_rfl) hq50_ ?_
   refine A_ready (i := 15) (rs := []) (by kernel_rfl) ?_
   refine AllR.cons ?_ AllR.nil
   refine A_op0 (ls' := #[true, true, true, true, true, true, true, true, true, true, true, true, true, true, true, true]) rfl (by kernel_rfl) (T_store1 (v := v45_) rfl rfl z144 (Holds.sl_one H47_ 2 rfl) H47_ 3 rfl (Nat.le_of_ble_eq_true (by rfl)) ?_)
   intro w51_ S53_ H52_
   replace H52_ : Holds w51_ (cl b40_ 147 [(Value.pointer (some ⟨b32_, 0, none⟩))] :: ro R30_ :: sl 147 1 v45_ ((List.length C) + 1) ((C.map pv) ++ [(Value.pointer (some ⟨b32_, 0, none⟩))]) :: cl b8_ 146 [v45_, (Value.slice none 0 0), (Value.slice none 0 0)] :: cl b2_ 25 [(Value.int .i64 x.q.kind), (Value.string x.q.key), (Value.string x.q.end_), (Value.string x.q.value), (Value.int .i64 x.q.lease), (Value.int .i64 x.q.rev), (Value.int .i64 x.q.limit), (Value.int .i64 x.q.sortOrder), (Value.int .i64 x.q.sortTarget), (Value.int .i64 x.q.minMod), (Value.int .i64 x.q.maxMod), (Value.int .i64 x.q.minCreate), (Value.int .i64 x.q.maxCreate), (Value.bool x.q.keysOnly), (Value.bool x.q.countOnly), (Value.bool x.q.prev), (Value.bool x.q.ignoreValue), (Value.bool x.q.ignoreLease), x.q.cmps, x.q.then_, x.q.else_] :: F) := H52_
   have S54_ := Same.trans S49_ S53_
   refine ⟨⟨Holds.rd H52_ 4 rfl, (Sub.trans' hs29_ (Holds.ro_at H52_ 1 rfl))⟩, ?_⟩
   refine A_done (by kernel_rfl) ?_
   refine (X_blkN (X_then (hK23_ _ _ ?_)))
   clear hK23_
   refine C_reg ?_
   refine S_list (T_val (v := (Value.int .i64 (k : Int))) (x_move rfl) ?_)
   refine S_list (T_val (v := (Value.int .i64 ((k : Int) + 1))) (x_bin rfl rfl (ib_add (IntWalk.i64_in _ (by omega)))) ?_)
   refine S_list (T_val (v := (Value.int .i64 ((k : Int) + 1))) (x_assign rfl) ?_)
   refine wpList_nil ?_
   refine (X_then ?_)
   have H55_ := Holds.resl H52_ 2 rfl (by rw [List.map_append]; rfl : (C.map pv) ++ [(Value.pointer (some ⟨b32_, 0, none⟩))] = (C ++ [b32_]).map pv) (by rw [List.length_append]; rfl : (List.length C) + 1 = (List.length (C ++ [b32_])))
   have H56_ : Holds w51_ (sl 147 1 v45_ (List.length (C ++ [b32_])) ((C ++ [b32_]).map pv) :: cl b8_ 146 [v45_, (Value.slice none 0 0), (Value.slice none 0 0)] :: cl b2_ 25 [(Value.int .i64 x.q.kind), (Value.string x.q.key), (Value.string x.q.end_), (Value.string x.q.value), (Value.int .i64 x.q.lease), (Value.int .i64 x.q.rev), (Value.int .i64 x.q.limit), (Value.int .i64 x.q.sortOrder), (Value.int .i64 x.q.sortTarget), (Value.int .i64 x.q.minMod), (Value.int .i64 x.q.maxMod), (Value.int .i64 x.q.minCreate), (Value.int .i64 x.q.maxCreate), (Value.bool x.q.keysOnly), (Value.bool x.q.countOnly), (Value.bool x.q.prev), (Value.bool x.q.ignoreValue), (Value.bool x.q.ignoreLease), x.q.cmps, x.q.then_, x.q.else_] :: ro R30_ :: F) := (Holds.pkF H55_ [2, 2, 2, 1] 1 :)
   exact ⟨⟨R30_, k + 1, v45_, (C ++ [b32_])⟩, ⟨_, congrArg (fun e => mkA 42 e []) (ch (ch (ch (ch rfl rfl) rfl) rfl) (congrArg (Value.int .i64) ((by first | rfl | omega | (simp; done) | (simp; omega)) : (k : Int) + 1 = ((k + 1 : Nat) : Int)))), H56_, S54_, (hz_R_R30_), (by first | assumption | omega | exact rfl), (by rw [List.length_append, hCl]; rfl), (All2.snoc (hC.mono fun _ _ h => h.mono hs29_) hx27_ he33_)⟩, by first | omega | (dsimp only; omega) | (simp; omega)⟩
  refine AllR.cons ?_ AllR.nil
  have H62_ := ((Holds.bring H24_ 3 rfl) :)
  refine A_op (ls' := #[true, true, true, true, false, true, true, true, true, true, true, false, false, false, false, false]) rfl (by kernel_rfl) (T_callG (al := [(Value.agg #[(Value.int .i64 x26_.target), (Value.int .i64 x26_.result), (Value.string x26_.key), (Value.string x26_.end_), (Value.int .i64 x26_.n), (Value.string x26_.value), (Value.bool x26_.bare)])]) (pre := []) rfl rfl cb73 (ckCmpIn R1 x26_) H62_ ?_)
  rintro R58_ v59_ p66_ w63_ hs57_ ⟨b60_, rfl, rfl, he61_⟩ S65_ H64_
  have S67_ := Same.trans (Same.trans S19_ (Same.drew _)) S65_
  have hz_R_R58_ := Sub.trans' hsR1 hs57_
  refine ⟨⟨Holds.rd H64_ 3 rfl, (Sub.trans' hs57_ (Holds.ro_at H64_ 0 rfl))⟩, ?_⟩
  refine A_ready (i := 4) (rs := [11]) (by kernel_rfl) ?_
  refine AllR.cons ?_ ?_
  ·skip
   refine A_op (ls' := #[true, true, true, true, true, true, true, true, true, true, true, false, false, false, false, false]) rfl (by kernel_rfl) (T_val (v := cv) (x_load1 rfl Try.underlying144 rfl ((Holds.rd H64_ 2 rfl) 0 cv rfl)) ?_)
   refine ⟨⟨Holds.rd H64_ 3 rfl, (Sub.trans' hs57_ (Holds.ro_at H64_ 0 rfl))⟩, ?_⟩
   refine A_ready (i := 11) (rs := []) (by kernel_rfl) ?_
   refine AllR.cons ?_ AllR.nil
   refine A_op (ls' := #[true, true, true, true, true, true, true, true, true, true, true, true, false, false, false, false]) rfl (by kernel_rfl) (T_new (obj := .cells #[(Value.pointer (some ⟨b60_, 0, none⟩))] 147) (f := fun b__ => .slice (some ⟨b__, 0, none⟩) 1 1) (A := fun b__ => cl b__ 147 [(Value.pointer (some ⟨b60_, 0, none⟩))]) (by kernel_rfl) (fun l h => h.alloc _ _) H64_ ?_)
   intro b68_ w69_ S71_ H70_
   replace H70_ : Holds w69_ (cl b68_ 147 [(Value.pointer (some ⟨b60_, 0, none⟩))] :: ro R58_ :: sl 147 1 cv (List.length C) (C.map pv) :: cl b8_ 146 [cv, (Value.slice none 0 0), (Value.slice none 0 0)] :: cl b2_ 25 [(Value.int .i64 x.q.kind), (Value.string x.q.key), (Value.string x.q.end_), (Value.string x.q.value), (Value.int .i64 x.q.lease), (Value.int .i64 x.q.rev), (Value.int .i64 x.q.limit), (Value.int .i64 x.q.sortOrder), (Value.int .i64 x.q.sortTarget), (Value.int .i64 x.q.minMod), (Value.int .i64 x.q.maxMod), (Value.int .i64 x.q.minCreate), (Value.int .i64 x.q.maxCreate), (Value.bool x.q.keysOnly), (Value.bool x.q.countOnly), (Value.bool x.q.prev), (Value.bool x.q.ignoreValue), (Value.bool x.q.ignoreLease), x.q.cmps, x.q.then_, x.q.else_] :: F) := H70_
   have S72_ := Same.trans S67_ S71_
   refine ⟨⟨Holds.rd H70_ 4 rfl, (Sub.trans' hs57_ (Holds.ro_at H70_ 1 rfl))⟩, ?_⟩
   refine A_ready (i := 12) (rs := []) (by kernel_rfl) ?_
   refine AllR.cons ?_ AllR.nil
   refine A_op (ls' := #[true, true, true, true, true, true, true, true, true, true, true, true, true, false, false, false]) rfl (by kernel_rfl) (T_append rfl rfl Try.underlying144 z147 rfl (by decide) H70_ 2 rfl (Holds.cl_src H70_ 0 rfl Try.underlying144 (by simp [Value.oneCell']) rfl) (by first | omega | (simp only [List.length_append, List.length_cons, List.length_nil]; omega)) ?_)
   intro v73_ w74_ S76_ H75_
   have S77_ := Same.trans S72_ S76_
   refine ⟨⟨Holds.rd H75_ 4 rfl, (Sub.trans' hs57_ (Holds.ro_at H75_ 1 rfl))⟩, ?_⟩
   have hq78_ := And.intro (Holds.rd H75_ 4 rfl) ((Sub.trans' hs57_ (Holds.ro_at H75_ 1 rfl)))
   refine A_tk 13 (v := (Value.pointer (some ⟨b8_, 0, none⟩))) rfl (by kernel_rfl) (fun w hS => by kernel_rfl) hq78_ ?_
   refine A_tk 14 (v := (Value.pointer (some ⟨b8_, 0, none⟩))) rfl (by kernel_rfl) (fun w hS => by kernel_rfl) hq78_ ?_
   refine A_ready (i := 15) (rs := []) (by kernel_rfl) ?_
   refine AllR.cons ?_ AllR.nil
   refine A_op0 (ls' := #[true, true, true, true, true, true, true, true, true, true, true, true, true, true, true, true]) rfl (by kernel_rfl) (T_store1 (v := v73_) rfl rfl z144 (Holds.sl_one H75_ 2 rfl) H75_ 3 rfl (Nat.le_of_ble_eq_true (by rfl)) ?_)
   intro w79_ S81_ H80_
   have S82_ := Same.trans S77_ S81_
   refine ⟨⟨Holds.rd H80_ 4 rfl, (Sub.trans' hs57_ (Holds.ro_at H80_ 1 rfl))⟩, ?_⟩
   refine A_done (by kernel_rfl) ?_
   refine (X_blkN (X_then (hK23_ _ _ ?_)))
   clear hK23_
   refine C_reg ?_
   refine S_list (T_val (v := (Value.int .i64 (k : Int))) (x_move rfl) ?_)
   refine S_list (T_val (v := (Value.int .i64 ((k : Int) + 1))) (x_bin rfl rfl (ib_add (IntWalk.i64_in _ (by omega)))) ?_)
   refine S_list (T_val (v := (Value.int .i64 ((k : Int) + 1))) (x_assign rfl) ?_)
   refine wpList_nil ?_
   refine (X_then ?_)
   have H83_ := Holds.resl H80_ 2 rfl (by rw [List.map_append]; rfl : (C.map pv) ++ [(Value.pointer (some ⟨b60_, 0, none⟩))] = (C ++ [b60_]).map pv) (by rw [List.length_append]; rfl : (List.length C) + 1 = (List.length (C ++ [b60_])))
   have H84_ : Holds w79_ (sl 147 1 v73_ (List.length (C ++ [b60_])) ((C ++ [b60_]).map pv) :: cl b8_ 146 [v73_, (Value.slice none 0 0), (Value.slice none 0 0)] :: cl b2_ 25 [(Value.int .i64 x.q.kind), (Value.string x.q.key), (Value.string x.q.end_), (Value.string x.q.value), (Value.int .i64 x.q.lease), (Value.int .i64 x.q.rev), (Value.int .i64 x.q.limit), (Value.int .i64 x.q.sortOrder), (Value.int .i64 x.q.sortTarget), (Value.int .i64 x.q.minMod), (Value.int .i64 x.q.maxMod), (Value.int .i64 x.q.minCreate), (Value.int .i64 x.q.maxCreate), (Value.bool x.q.keysOnly), (Value.bool x.q.countOnly), (Value.bool x.q.prev), (Value.bool x.q.ignoreValue), (Value.bool x.q.ignoreLease), x.q.cmps, x.q.then_, x.q.else_] :: ro R58_ :: F) := (Holds.pkF H83_ [2, 2, 2, 1] 1 :)
   exact ⟨⟨R58_, k + 1, v73_, (C ++ [b60_])⟩, ⟨_, congrArg (fun e => mkA 42 e []) (ch (ch (ch (ch rfl rfl) rfl) rfl) (congrArg (Value.int .i64) ((by first | rfl | omega | (simp; done) | (simp; omega)) : (k : Int) + 1 = ((k + 1 : Nat) : Int)))), H84_, S82_, (hz_R_R58_), (by first | assumption | omega | exact rfl), (by rw [List.length_append, hCl]; rfl), (All2.snoc (hC.mono fun _ _ h => h.mono hs57_) hx27_ he61_)⟩, by first | omega | (dsimp only; omega) | (simp; omega)⟩
  refine AllR.cons ?_ AllR.nil
  refine A_op (ls' := #[true, true, true, true, false, true, true, true, true, true, true, true, false, false, false, false]) rfl (by kernel_rfl) (T_new (obj := .cells #[(Value.pointer (some ⟨b60_, 0, none⟩))] 147) (f := fun b__ => .slice (some ⟨b__, 0, none⟩) 1 1) (A := fun b__ => cl b__ 147 [(Value.pointer (some ⟨b60_, 0, none⟩))]) (by kernel_rfl) (fun l h => h.alloc _ _) H64_ ?_)
  intro b85_ w86_ S88_ H87_
  have S89_ := Same.trans S67_ S88_
  refine ⟨⟨Holds.rd H87_ 4 rfl, (Sub.trans' hs57_ (Holds.ro_at H87_ 1 rfl))⟩, ?_⟩
  refine A_ready (i := 4) (rs := []) (by kernel_rfl) ?_
  refine AllR.cons ?_ AllR.nil
  refine A_op (ls' := #[true, true, true, true, true, true, true, true, true, true, true, true, false, false, false, false]) rfl (by kernel_rfl) (T_val (v := cv) (x_load1 rfl Try.underlying144 rfl ((Holds.rd H87_ 3 rfl) 0 cv rfl)) ?_)
  refine ⟨⟨Holds.rd H87_ 4 rfl, (Sub.trans' hs57_ (Holds.ro_at H87_ 1 rfl))⟩, ?_⟩
  refine A_ready (i := 12) (rs := []) (by kernel_rfl) ?_
  refine AllR.cons ?_ AllR.nil
  refine A_op (ls' := #[true, true, true, true, true, true, true, true, true, true, true, true, true, false, false, false]) rfl (by kernel_rfl) (T_append rfl rfl Try.underlying144 z147 rfl (by decide) H87_ 2 rfl (Holds.cl_src H87_ 0 rfl Try.underlying144 (by simp [Value.oneCell']) rfl) (by first | omega | (simp only [List.length_append, List.length_cons, List.length_nil]; omega)) ?_)
  intro v90_ w91_ S93_ H92_
  have S94_ := Same.trans S89_ S93_
  refine ⟨⟨Holds.rd H92_ 4 rfl, (Sub.trans' hs57_ (Holds.ro_at H92_ 1 rfl))⟩, ?_⟩
  have hq95_ := And.intro (Holds.rd H92_ 4 rfl) ((Sub.trans' hs57_ (Holds.ro_at H92_ 1 rfl)))
  refine A_tk 13 (v := (Value.pointer (some ⟨b8_, 0, none⟩))) rfl (by kernel_rfl) (fun w hS => by kernel_rfl) hq95_ ?_
  refine A_tk 14 (v := (Value.pointer (some ⟨b8_, 0, none⟩))) rfl (by kernel_rfl) (fun w hS => by kernel_rfl) hq95_ ?_
  refine A_ready (i := 15) (rs := []) (by kernel_rfl) ?_
  refine AllR.cons ?_ AllR.nil
  refine A_op0 (ls' := #[true, true, true, true, true, true, true, true, true, true, true, true, true, true, true, true]) rfl (by kernel_rfl) (T_store1 (v := v90_) rfl rfl z144 (Holds.sl_one H92_ 2 rfl) H92_ 3 rfl (Nat.le_of_ble_eq_true (by rfl)) ?_)
  intro w96_ S98_ H97_
  replace H97_ : Holds w96_ (cl b85_ 147 [(Value.pointer (some ⟨b60_, 0, none⟩))] :: ro R58_ :: sl 147 1 v90_ ((List.length C) + 1) ((C.map pv) ++ [(Value.pointer (some ⟨b60_, 0, none⟩))]) :: cl b8_ 146 [v90_, (Value.slice none 0 0), (Value.slice none 0 0)] :: cl b2_ 25 [(Value.int .i64 x.q.kind), (Value.string x.q.key), (Value.string x.q.end_), (Value.string x.q.value), (Value.int .i64 x.q.lease), (Value.int .i64 x.q.rev), (Value.int .i64 x.q.limit), (Value.int .i64 x.q.sortOrder), (Value.int .i64 x.q.sortTarget), (Value.int .i64 x.q.minMod), (Value.int .i64 x.q.maxMod), (Value.int .i64 x.q.minCreate), (Value.int .i64 x.q.maxCreate), (Value.bool x.q.keysOnly), (Value.bool x.q.countOnly), (Value.bool x.q.prev), (Value.bool x.q.ignoreValue), (Value.bool x.q.ignoreLease), x.q.cmps, x.q.then_, x.q.else_] :: F) := H97_
  have S99_ := Same.trans S94_ S98_
  refine ⟨⟨Holds.rd H97_ 4 rfl, (Sub.trans' hs57_ (Holds.ro_at H97_ 1 rfl))⟩, ?_⟩
  refine A_done (by kernel_rfl) ?_
  refine (X_blkN (X_then (hK23_ _ _ ?_)))
  clear hK23_
  refine C_reg ?_
  refine S_list (T_val (v := (Value.int .i64 (k : Int))) (x_move rfl) ?_)
  refine S_list (T_val (v := (Value.int .i64 ((k : Int) + 1))) (x_bin rfl rfl (ib_add (IntWalk.i64_in _ (by omega)))) ?_)
  refine S_list (T_val (v := (Value.int .i64 ((k : Int) + 1))) (x_assign rfl) ?_)
  refine wpList_nil ?_
  refine (X_then ?_)
  have H100_ := Holds.resl H97_ 2 rfl (by rw [List.map_append]; rfl : (C.map pv) ++ [(Value.pointer (some ⟨b60_, 0, none⟩))] = (C ++ [b60_]).map pv) (by rw [List.length_append]; rfl : (List.length C) + 1 = (List.length (C ++ [b60_])))
  have H101_ : Holds w96_ (sl 147 1 v90_ (List.length (C ++ [b60_])) ((C ++ [b60_]).map pv) :: cl b8_ 146 [v90_, (Value.slice none 0 0), (Value.slice none 0 0)] :: cl b2_ 25 [(Value.int .i64 x.q.kind), (Value.string x.q.key), (Value.string x.q.end_), (Value.string x.q.value), (Value.int .i64 x.q.lease), (Value.int .i64 x.q.rev), (Value.int .i64 x.q.limit), (Value.int .i64 x.q.sortOrder), (Value.int .i64 x.q.sortTarget), (Value.int .i64 x.q.minMod), (Value.int .i64 x.q.maxMod), (Value.int .i64 x.q.minCreate), (Value.int .i64 x.q.maxCreate), (Value.bool x.q.keysOnly), (Value.bool x.q.countOnly), (Value.bool x.q.prev), (Value.bool x.q.ignoreValue), (Value.bool x.q.ignoreLease), x.q.cmps, x.q.then_, x.q.else_] :: ro R58_ :: F) := (Holds.pkF H100_ [2, 2, 2, 1] 1 :)
  exact ⟨⟨R58_, k + 1, v90_, (C ++ [b60_])⟩, ⟨_, congrArg (fun e => mkA 42 e []) (ch (ch (ch (ch rfl rfl) rfl) rfl) (congrArg (Value.int .i64) ((by first | rfl | omega | (simp; done) | (simp; omega)) : (k : Int) + 1 = ((k + 1 : Nat) : Int)))), H101_, S99_, (hz_R_R58_), (by first | assumption | omega | exact rfl), (by rw [List.length_append, hCl]; rfl), (All2.snoc (hC.mono fun _ _ h => h.mono hs57_) hx27_ he61_)⟩, by first | omega | (dsimp only; omega) | (simp; omega)⟩
 ·have c22_fp : ¬ ((k : Int) < ((List.length x.cc) : Int)) := of_decide_eq_false c22_f
  refine C_exit (X_thenX (X_thenX (X_blkHit ?_)))
  refine (X_then (hK13_ _ _ ?_))
  clear hK13_
  refine C_seq (fun K102_ hK102_ => ?_)
  refine C_reg ?_
  refine S_list (T_val (v := (Value.pointer (some ⟨b8_, 0, none⟩))) (x_move rfl) ?_)
  refine S_list (T_val (v := (Value.pointer (some ⟨b2_, 19, none⟩))) (by kernel_rfl) ?_)
  refine S_list (T_val (v := x.q.then_) (x_load1 rfl Try.underlying23 rfl ((Holds.rd H18_ 2 rfl) 19 x.q.then_ rfl)) ?_)
  have H109_ := ((Holds.bring H18_ 3 rfl) :)
  refine S_list (T_callG (al := [x.q.then_]) (pre := []) rfl rfl cb50 (ih R1 x.q.then_ x.tt (RS.mono hR.t hsR1) ((RAts.mono hsR1 hR.tt)) (by omega) (hP.tt h4) (by have := x.sz_tt; have := x.sz_ee; omega)) H109_ ?_)
  rintro R104_ v105_ p113_ w110_ hs103_ ⟨_, T106_, rfl, rfl, he107_, he108_⟩ S112_ H111_
  have S114_ := Same.trans S19_ S112_
  have hz_R_R104_ := Sub.trans' hsR1 hs103_
  refine S_list (T_val (v := (Value.pointer (some ⟨b8_, 0, none⟩))) (by kernel_rfl) ?_)
  refine S_list (T_val (v := (Value.pointer (some ⟨b8_, 1, none⟩))) (by kernel_rfl) ?_)
  refine S_list0 (T_store1 (v := v105_) rfl rfl z104 (RS.one he107_) H111_ 2 rfl (Nat.le_of_ble_eq_true (by rfl)) ?_)
  intro w115_ S117_ H116_
  replace H116_ : Holds w115_ (ro R104_ :: sl 147 1 cv (List.length C) (C.map pv) :: cl b8_ 146 [cv, v105_, (Value.slice none 0 0)] :: cl b2_ 25 [(Value.int .i64 x.q.kind), (Value.string x.q.key), (Value.string x.q.end_), (Value.string x.q.value), (Value.int .i64 x.q.lease), (Value.int .i64 x.q.rev), (Value.int .i64 x.q.limit), (Value.int .i64 x.q.sortOrder), (Value.int .i64 x.q.sortTarget), (Value.int .i64 x.q.minMod), (Value.int .i64 x.q.maxMod), (Value.int .i64 x.q.minCreate), (Value.int .i64 x.q.maxCreate), (Value.bool x.q.keysOnly), (Value.bool x.q.countOnly), (Value.bool x.q.prev), (Value.bool x.q.ignoreValue), (Value.bool x.q.ignoreLease), x.q.cmps, x.q.then_, x.q.else_] :: F) := H116_
  have S118_ := Same.trans S114_ S117_
  refine wpList_nil ?_
  refine (X_then (hK102_ _ _ ?_))
  clear hK102_
  refine C_seq (fun K119_ hK119_ => ?_)
  refine C_reg ?_
  refine S_list (T_val (v := (Value.pointer (some ⟨b8_, 0, none⟩))) (x_move rfl) ?_)
  refine S_list (T_val (v := (Value.pointer (some ⟨b2_, 20, none⟩))) (by kernel_rfl) ?_)
  refine S_list (T_val (v := x.q.else_) (x_load1 rfl Try.underlying23 rfl ((Holds.rd H116_ 3 rfl) 20 x.q.else_ rfl)) ?_)
  refine S_list (T_callG (al := [x.q.else_]) (pre := []) rfl rfl cb50 (ih R104_ x.q.else_ x.ee (RS.mono hR.e hz_R_R104_) ((RAts.mono hz_R_R104_ hR.ee)) (by omega) (hP.ee h4) (by have := x.sz_tt; have := x.sz_ee; omega)) H116_ ?_)
  rintro R121_ v122_ p129_ w126_ hs120_ ⟨_, T123_, rfl, rfl, he124_, he125_⟩ S128_ H127_
  have S130_ := Same.trans S118_ S128_
  have hz_R_R121_ := Sub.trans' hz_R_R104_ hs120_
  have hz_R1_R121_ := Sub.trans' hs103_ hs120_
  refine S_list (T_val (v := (Value.pointer (some ⟨b8_, 0, none⟩))) (by kernel_rfl) ?_)
  refine S_list (T_val (v := (Value.pointer (some ⟨b8_, 2, none⟩))) (by kernel_rfl) ?_)
  refine S_list0 (T_store1 (v := v122_) rfl rfl z104 (RS.one he124_) H127_ 2 rfl (Nat.le_of_ble_eq_true (by rfl)) ?_)
  intro w131_ S133_ H132_
  have S134_ := Same.trans S130_ S133_
  refine wpList_nil ?_
  refine (X_then (hK119_ _ _ ?_))
  clear hK119_
  refine C_seq (fun K135_ hK135_ => ?_)
  refine C_reg ?_
  refine S_list (T_val (v := (Value.pointer (some ⟨b8_, 0, none⟩))) (x_move rfl) ?_)
  refine S_list (T_val (v := (Value.pointer (some ⟨b8_, 0, none⟩))) (x_assign rfl) ?_)
  refine wpList_nil ?_
  refine (X_then (hK135_ _ _ ?_))
  clear hK135_
  refine C_ret ?_
  refine R_any (v := (Value.pointer (some ⟨b8_, 0, none⟩))) (run_results1 rfl rfl) ?_
  obtain ⟨R136_, hs137_, ⟨R138_, ha139_, hs140_⟩, H141_⟩ := Holds.gift H132_
  replace H141_ : Holds w131_ (ro R136_ :: cl b8_ 146 [cv, v105_, v122_] :: cl b2_ 25 [(Value.int .i64 x.q.kind), (Value.string x.q.key), (Value.string x.q.end_), (Value.string x.q.value), (Value.int .i64 x.q.lease), (Value.int .i64 x.q.rev), (Value.int .i64 x.q.limit), (Value.int .i64 x.q.sortOrder), (Value.int .i64 x.q.sortTarget), (Value.int .i64 x.q.minMod), (Value.int .i64 x.q.maxMod), (Value.int .i64 x.q.minCreate), (Value.int .i64 x.q.maxCreate), (Value.bool x.q.keysOnly), (Value.bool x.q.countOnly), (Value.bool x.q.prev), (Value.bool x.q.ignoreValue), (Value.bool x.q.ignoreLease), x.q.cmps, x.q.then_, x.q.else_] :: F) := H141_
  have hz_R_R136_ := Sub.trans' hz_R_R121_ hs137_
  have hz_R1_R136_ := Sub.trans' hz_R1_R121_ hs137_
  have hz_R104__R136_ := Sub.trans' hs120_ hs137_
  have hr142_ : RS R136_ 1 cv (List.length C) (C.map pv) := (sl_RS ha139_ (Sub.rfl' _)).mono hs140_
  obtain ⟨R143_, hs144_, ⟨R145_, ha146_, hs147_⟩, H148_⟩ := Holds.gift H141_
  have hz_R_R143_ := Sub.trans' hz_R_R136_ hs144_
  have hz_R1_R143_ := Sub.trans' hz_R1_R136_ hs144_
  have hz_R104__R143_ := Sub.trans' hz_R104__R136_ hs144_
  have hz_R121__R143_ := Sub.trans' hs137_ hs144_
  have hr149_ : RC R143_ b8_ 0 [cv, v105_, v122_] := (cl_RC ha146_ (Sub.rfl' _)).mono hs147_
  have H150_ : Holds w131_ (ro R143_ :: F) := (Holds.pkF H148_ [0] 1 :)
  exact ⟨R143_, _, _, rfl, hz_R_R143_, ⟨b8_, rfl, rfl, (⟨_, _, _, _, _, _, hr149_, (RS.mono hr142_ hs144_), (he107_.mono hz_R104__R143_), (he124_.mono hz_R121__R143_), (by rw [List.take_of_length_le (by omega)] at hC; exact hC.mono fun _ _ h => h.mono hz_R1_R143_), (OpAt.all hz_R104__R143_ he108_), (OpAt.all hz_R121__R143_ he125_)⟩)⟩, S134_, H150_⟩
end Go.Proofs.Ytlnihndjepjagaa
