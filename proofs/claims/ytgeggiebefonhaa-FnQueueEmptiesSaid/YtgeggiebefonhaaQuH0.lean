/- What a queue of leases comes to: what is pushed, what is popped. -/
import Derived.Test.YtgeggiebefonhaaQuG
set_option linter.unusedVariables false
set_option linter.unusedSimpArgs false
namespace Go.Proofs.Ytgeggiebefonhaa
open Go Go.RowKit Gw

set_option maxHeartbeats 400000 in
theorem qPushM (R : HP) (nb mb : Nat) (v : Value) (q : List Nd) (b : Nat) (id t k : Int) (hn : q.length ≤ 100000) :
    Tri Try.prog 162 #[(Value.pointer (some ⟨nb, 1, none⟩)), (Value.iface 77 (Value.pointer (some ⟨b, 0, none⟩)))] R [cl nb 135 [(Value.map (some mb)), v], sl 77 1 v (List.length q) (ptrs q), fam 137 (encs q), cl b 137 [(Value.int .i64 id), (Value.int .i64 (t / 1000000000)), (Value.int .i64 (t % 1000000000)), (Value.bool true), (Value.int .i64 k)]] (fun v__ post__ => ∃ (v' : Value), v__ = (Value.tuple #[]) ∧ post__ = [cl nb 135 [(Value.map (some mb)), v'], sl 77 1 v' (List.length (q ++ [(⟨b, id, t, (q.length : Int)⟩ : Nd)])) (ptrs (q ++ [(⟨b, id, t, (q.length : Int)⟩ : Nd)])), fam 137 (encs (q ++ [(⟨b, id, t, (q.length : Int)⟩ : Nd)]))]) := by
  refine Tri.into (n := 24) (al := [(Value.pointer (some ⟨nb, 1, none⟩)), (Value.iface 77 (Value.pointer (some ⟨b, 0, none⟩)))]) Try.func162 rfl Try.ntmps162 rfl rfl fun w F H => ?_
  replace H : Holds w (ro R :: cl nb 135 [(Value.map (some mb)), v] :: sl 77 1 v (List.length q) (ptrs q) :: fam 137 (encs q) :: cl b 137 [(Value.int .i64 id), (Value.int .i64 (t / 1000000000)), (Value.int .i64 (t % 1000000000)), (Value.bool true), (Value.int .i64 k)] :: F) := H
  refine C_seq (fun K1_ hK1_ => ?_)
  refine C_reg ?_
  refine S_list (T_val (v := (Value.pointer (some ⟨nb, 1, none⟩))) (x_move rfl) ?_)
  refine S_list (T_val (v := (Value.pointer (some ⟨nb, 1, none⟩))) (by kernel_rfl) ?_)
  refine S_list (T_val (v := v) (x_load1 rfl Try.underlying133 rfl ((Holds.rd H 1 rfl) 1 v rfl)) ?_)
  refine S_list (T_val (v := (Value.int .i64 ((List.length q) : Int))) (x_lenSl rfl H 2 rfl Try.underlying133) ?_)
  refine S_list (T_val (v := (Value.int .i64 ((List.length q) : Int))) (x_assign rfl) ?_)
  refine wpList_nil ?_
  refine (X_then (hK1_ _ _ ?_))
  clear hK1_
  refine C_seq (fun K2_ hK2_ => ?_)
  refine C_reg ?_
  refine S_list (T_val (v := (Value.iface 77 (Value.pointer (some ⟨b, 0, none⟩)))) (x_move rfl) ?_)
  refine S_list (T_val (v := (Value.pointer (some ⟨b, 0, none⟩))) (by kernel_rfl) ?_)
  refine S_list (T_val (v := (Value.pointer (some ⟨b, 0, none⟩))) (x_assign rfl) ?_)
  refine wpList_nil ?_
  refine (X_then (hK2_ _ _ ?_))
  clear hK2_
  refine C_seq (fun K3_ hK3_ => ?_)
  refine C_reg ?_
  refine S_list (T_val (v := (Value.pointer (some ⟨b, 0, none⟩))) (x_move rfl) ?_)
  refine S_list (T_val (v := (Value.int .i64 ((List.length q) : Int))) (x_move rfl) ?_)
  refine S_list (T_val (v := (Value.pointer (some ⟨b, 0, none⟩))) (by kernel_rfl) ?_)
  refine S_list (T_val (v := (Value.pointer (some ⟨b, 4, none⟩))) (by kernel_rfl) ?_)
  refine S_list0 (T_store1 (v := (Value.int .i64 ((List.length q) : Int))) rfl rfl z3 rfl H 4 rfl (Nat.le_of_ble_eq_true (by rfl)) ?_)
  intro w4_ S6_ H5_
  replace H5_ : Holds w4_ (ro R :: cl nb 135 [(Value.map (some mb)), v] :: sl 77 1 v (List.length q) (ptrs q) :: fam 137 (encs q) :: cl b 137 [(Value.int .i64 id), (Value.int .i64 (t / 1000000000)), (Value.int .i64 (t % 1000000000)), (Value.bool true), (Value.int .i64 ((List.length q) : Int))] :: F) := H5_
  have S7_ := Same.trans (Same.refl w) S6_
  refine wpList_nil ?_
  refine (X_then (hK3_ _ _ ?_))
  clear hK3_
  refine C_reg ?_
  refine S_list (T_val (v := (Value.pointer (some ⟨nb, 1, none⟩))) (x_move rfl) ?_)
  refine S_list (T_val (v := (Value.pointer (some ⟨nb, 1, none⟩))) (x_move rfl) ?_)
  refine S_list (T_val (v := (Value.pointer (some ⟨nb, 1, none⟩))) (by kernel_rfl) ?_)
  refine S_list (T_val (v := v) (x_load1 rfl Try.underlying133 rfl ((Holds.rd H5_ 1 rfl) 1 v rfl)) ?_)
  refine S_list (T_val (v := (Value.pointer (some ⟨b, 0, none⟩))) (x_move rfl) ?_)
  refine S_list (T_new (obj := .cells #[(Value.pointer (some ⟨b, 0, none⟩))] 77) (f := fun b__ => .slice (some ⟨b__, 0, none⟩) 1 1) (A := fun b__ => cl b__ 77 [(Value.pointer (some ⟨b, 0, none⟩))]) (by kernel_rfl) (fun l h => h.alloc _ _) H5_ ?_)
  intro b8_ w9_ S11_ H10_
  replace H10_ : Holds w9_ (cl b8_ 77 [(Value.pointer (some ⟨b, 0, none⟩))] :: ro R :: cl nb 135 [(Value.map (some mb)), v] :: sl 77 1 v (List.length q) (ptrs q) :: fam 137 (encs q) :: cl b 137 [(Value.int .i64 id), (Value.int .i64 (t / 1000000000)), (Value.int .i64 (t % 1000000000)), (Value.bool true), (Value.int .i64 ((List.length q) : Int))] :: F) := H10_
  have S12_ := Same.trans S7_ S11_
  refine S_list (T_append rfl rfl Try.underlying133 z77 rfl (by decide) H10_ 3 rfl (Holds.cl_src H10_ 0 rfl Try.underlying133 (by simp [Value.oneCell']) rfl) (by omega) ?_)
  intro v13_ w14_ S16_ H15_
  replace H15_ : Holds w14_ (cl b8_ 77 [(Value.pointer (some ⟨b, 0, none⟩))] :: ro R :: cl nb 135 [(Value.map (some mb)), v] :: sl 77 1 v13_ ((List.length q) + 1) ((ptrs q) ++ [(Value.pointer (some ⟨b, 0, none⟩))]) :: fam 137 (encs q) :: cl b 137 [(Value.int .i64 id), (Value.int .i64 (t / 1000000000)), (Value.int .i64 (t % 1000000000)), (Value.bool true), (Value.int .i64 ((List.length q) : Int))] :: F) := H15_
  have S17_ := Same.trans S12_ S16_
  refine S_list (T_val (v := (Value.pointer (some ⟨nb, 1, none⟩))) (by kernel_rfl) ?_)
  refine S_list0 (T_store1 (v := v13_) rfl rfl z133 (Holds.sl_one H15_ 3 rfl) H15_ 2 rfl (Nat.le_of_ble_eq_true (by rfl)) ?_)
  intro w18_ S20_ H19_
  replace H19_ : Holds w18_ (cl b8_ 77 [(Value.pointer (some ⟨b, 0, none⟩))] :: ro R :: cl nb 135 [(Value.map (some mb)), v13_] :: sl 77 1 v13_ ((List.length q) + 1) ((ptrs q) ++ [(Value.pointer (some ⟨b, 0, none⟩))]) :: fam 137 (encs q) :: cl b 137 [(Value.int .i64 id), (Value.int .i64 (t / 1000000000)), (Value.int .i64 (t % 1000000000)), (Value.bool true), (Value.int .i64 ((List.length q) : Int))] :: F) := H19_
  have S21_ := Same.trans S17_ S20_
  refine wpList_nil ?_
  refine R_0 rfl ?_
  have H22_ : Holds w18_ (cl b 137 [(Value.int .i64 id), (Value.int .i64 (t / 1000000000)), (Value.int .i64 (t % 1000000000)), (Value.bool true), (Value.int .i64 ((List.length q) : Int))] :: fam 137 (encs q) :: cl b8_ 77 [(Value.pointer (some ⟨b, 0, none⟩))] :: ro R :: cl nb 135 [(Value.map (some mb)), v13_] :: sl 77 1 v13_ ((List.length q) + 1) ((ptrs q) ++ [(Value.pointer (some ⟨b, 0, none⟩))]) :: F) := (Holds.bring (Holds.bring H19_ 4 rfl) 5 rfl)
  have H23_ : Holds w18_ (fam 137 (encs (q ++ [(⟨b, id, t, (q.length : Int)⟩ : Nd)])) :: cl b8_ 77 [(Value.pointer (some ⟨b, 0, none⟩))] :: ro R :: cl nb 135 [(Value.map (some mb)), v13_] :: sl 77 1 v13_ ((List.length q) + 1) ((ptrs q) ++ [(Value.pointer (some ⟨b, 0, none⟩))]) :: F) := by have := Holds.fam_push H22_; rwa [show encs q ++ [(b, _)] = encs (q ++ [(⟨b, id, t, (q.length : Int)⟩ : Nd)]) from by simp only [encs, List.map_append, List.map_cons, List.map_nil]; rfl] at this
  have H24_ : Holds w18_ (fam 137 (encs (q ++ [(⟨b, id, t, (q.length : Int)⟩ : Nd)])) :: cl b8_ 77 [(Value.pointer (some ⟨b, 0, none⟩))] :: ro R :: cl nb 135 [(Value.map (some mb)), v13_] :: sl 77 1 v13_ (List.length (q ++ [(⟨b, id, t, (q.length : Int)⟩ : Nd)])) (ptrs (q ++ [(⟨b, id, t, (q.length : Int)⟩ : Nd)])) :: F) := cast2 (P := fun (c__ : List Value) (k__ : Nat) => Holds w18_ (fam 137 (encs (q ++ [(⟨b, id, t, (q.length : Int)⟩ : Nd)])) :: cl b8_ 77 [(Value.pointer (some ⟨b, 0, none⟩))] :: ro R :: cl nb 135 [(Value.map (some mb)), v13_] :: sl 77 1 v13_ k__ c__ :: F)) ((by simp [ptrs]) : (ptrs q) ++ [(Value.pointer (some ⟨b, 0, none⟩))] = ptrs (q ++ [(⟨b, id, t, (q.length : Int)⟩ : Nd)])) ((by simp) : (List.length q) + 1 = (List.length (q ++ [(⟨b, id, t, (q.length : Int)⟩ : Nd)]))) H23_
  have H25_ : Holds w18_ (ro R :: cl nb 135 [(Value.map (some mb)), v13_] :: sl 77 1 v13_ (List.length (q ++ [(⟨b, id, t, (q.length : Int)⟩ : Nd)])) (ptrs (q ++ [(⟨b, id, t, (q.length : Int)⟩ : Nd)])) :: fam 137 (encs (q ++ [(⟨b, id, t, (q.length : Int)⟩ : Nd)])) :: F) := (Holds.erase (Holds.bring (Holds.bring (Holds.bring (Holds.bring H24_ 0 rfl) 4 rfl) 4 rfl) 4 rfl) 4)
  exact ⟨_, [cl nb 135 [(Value.map (some mb)), v13_], sl 77 1 v13_ (List.length (q ++ [(⟨b, id, t, (q.length : Int)⟩ : Nd)])) (ptrs (q ++ [(⟨b, id, t, (q.length : Int)⟩ : Nd)])), fam 137 (encs (q ++ [(⟨b, id, t, (q.length : Int)⟩ : Nd)]))], rfl, ⟨v13_, rfl, rfl⟩, S21_, H25_⟩

set_option maxHeartbeats 400000 in
theorem qPopM (R : HP) (nb mb : Nat) (v : Value) (q : List Nd) (n : Nat) (x : Nd) (hl : q.length = n + 1) (hx : q[n]? = some x) (hn : q.length ≤ 100000) :
    Tri Try.prog 161 #[(Value.pointer (some ⟨nb, 1, none⟩))] R [cl nb 135 [(Value.map (some mb)), v], sl 77 1 v (List.length q) (ptrs q), fam 137 (encs q)] (fun v__ post__ => ∃ (v' : Value), v__ = (Value.iface 77 (Value.pointer (some ⟨x.b, 0, none⟩))) ∧ post__ = [cl nb 135 [(Value.map (some mb)), v'], sl 77 1 v' (List.length (q.take n)) (ptrs (q.take n)), fam 137 (encs (q.take n)), cl x.b 137 [(Value.int .i64 x.id), (Value.int .i64 (x.t / 1000000000)), (Value.int .i64 (x.t % 1000000000)), (Value.bool true), (Value.int .i64 (-1))]]) := by
  refine Tri.into (n := 27) (al := [(Value.pointer (some ⟨nb, 1, none⟩))]) Try.func161 rfl Try.ntmps161 rfl rfl fun w F H => ?_
  replace H : Holds w (ro R :: cl nb 135 [(Value.map (some mb)), v] :: sl 77 1 v (List.length q) (ptrs q) :: fam 137 (encs q) :: F) := H
  refine C_seq (fun K1_ hK1_ => ?_)
  refine C_reg ?_
  refine S_list (T_val (v := (Value.nilIface)) (x_assign rfl) ?_)
  refine wpList_nil ?_
  refine (X_then (hK1_ _ _ ?_))
  clear hK1_
  refine C_seq (fun K2_ hK2_ => ?_)
  refine C_reg ?_
  refine S_list (T_val (v := (Value.pointer (some ⟨nb, 1, none⟩))) (x_move rfl) ?_)
  refine S_list (T_val (v := (Value.pointer (some ⟨nb, 1, none⟩))) (by kernel_rfl) ?_)
  refine S_list (T_val (v := v) (x_load1 rfl Try.underlying133 rfl ((Holds.rd H 1 rfl) 1 v rfl)) ?_)
  refine S_list (T_val (v := v) (x_assign rfl) ?_)
  refine wpList_nil ?_
  refine (X_then (hK2_ _ _ ?_))
  clear hK2_
  refine C_seq (fun K3_ hK3_ => ?_)
  refine C_reg ?_
  refine S_list (T_val (v := v) (x_move rfl) ?_)
  refine S_list (T_val (v := (Value.int .i64 ((List.length q) : Int))) (x_lenSl rfl H 2 rfl Try.underlying133) ?_)
  refine S_list (T_val (v := (Value.int .i64 ((List.length q) : Int))) (x_assign rfl) ?_)
  refine wpList_nil ?_
  refine (X_then (hK3_ _ _ ?_))
  clear hK3_
  refine C_seq (fun K4_ hK4_ => ?_)
  refine C_reg ?_
  refine S_list (T_val (v := v) (x_move rfl) ?_)
  refine S_list (T_val (v := (Value.int .i64 ((List.length q) : Int))) (x_move rfl) ?_)
  refine S_list (T_val (v := (Value.int .i64 (((List.length q) : Int) - 1))) (x_bin rfl rfl (ib_sub (IntWalk.i64_in _ (by omega)))) ?_)
  have hr5_ := Holds.sl_RSw H 2 rfl
  refine S_list (T_val (v := (Value.pointer (some ⟨(sb v), so v + n, none⟩))) (x_idxSlR (v := v) rfl hr5_ rfl Try.underlying133 z77 (by omega) (by omega) (by omega : _ = n) (by rw [Nat.mul_one])) ?_)
  refine S_list (T_val (v := (Value.pointer (some ⟨x.b, 0, none⟩))) (x_load1 rfl Try.underlying77 rfl ((Holds.slrd H 2 rfl) _ _ (ptrs_at hx))) ?_)
  refine S_list (T_val (v := (Value.pointer (some ⟨x.b, 0, none⟩))) (x_assign rfl) ?_)
  refine wpList_nil ?_
  refine (X_then (hK4_ _ _ ?_))
  clear hK4_
  refine C_seq (fun K6_ hK6_ => ?_)
  refine C_reg ?_
  refine S_list (T_val (v := (Value.pointer (some ⟨x.b, 0, none⟩))) (x_move rfl) ?_)
  refine S_list (T_val (v := (Value.pointer (some ⟨x.b, 0, none⟩))) (by kernel_rfl) ?_)
  refine S_list (T_val (v := (Value.pointer (some ⟨x.b, 4, none⟩))) (by kernel_rfl) ?_)
  refine S_list0 (T_storeFam (u := (Value.int .i64 (-1))) rfl rfl z3 rfl H 3 rfl (encs_at hx) (Nat.le_of_ble_eq_true (by rfl)) ?_)
  intro w7_ S9_ H8_
  replace H8_ : Holds w7_ (ro R :: cl nb 135 [(Value.map (some mb)), v] :: sl 77 1 v (List.length q) (ptrs q) :: fam 137 (List.set (encs q) n (x.b, [(Value.int .i64 x.id), (Value.int .i64 (x.t / 1000000000)), (Value.int .i64 (x.t % 1000000000)), (Value.bool true), (Value.int .i64 (-1))])) :: F) := H8_
  have S10_ := Same.trans (Same.refl w) S9_
  refine wpList_nil ?_
  refine (X_then (hK6_ _ _ ?_))
  clear hK6_
  refine C_seq (fun K11_ hK11_ => ?_)
  refine C_reg ?_
  refine S_list (T_val (v := (Value.pointer (some ⟨nb, 1, none⟩))) (x_move rfl) ?_)
  refine S_list (T_val (v := v) (x_move rfl) ?_)
  refine S_list (T_val (v := (Value.int .i64 ((List.length q) : Int))) (x_move rfl) ?_)
  refine S_list (T_val (v := (Value.int .i64 (((List.length q) : Int) - 1))) (x_bin rfl rfl (ib_sub (IntWalk.i64_in _ (by omega)))) ?_)
  refine S_list (T_val (v := ((slc v 0 n 1))) (x_sliceRS (l := 0) (h := n) rfl hr5_ Try.underlying133 z77 (by omega) ⟨_, _, rfl, by omega, by omega, by omega⟩ ⟨_, _, rfl, by omega, by omega, by omega⟩) ?_)
  have H12_ := Holds.sl_trunc (k := n) H8_ 2 rfl (by omega)
  replace H12_ : Holds w7_ (ro R :: cl nb 135 [(Value.map (some mb)), v] :: sl 77 1 (slc v 0 n 1) n (List.take (n * 1) (ptrs q)) :: fam 137 (List.set (encs q) n (x.b, [(Value.int .i64 x.id), (Value.int .i64 (x.t / 1000000000)), (Value.int .i64 (x.t % 1000000000)), (Value.bool true), (Value.int .i64 (-1))])) :: F) := H12_
  refine S_list (T_val (v := (Value.pointer (some ⟨nb, 1, none⟩))) (by kernel_rfl) ?_)
  refine S_list0 (T_store1 (v := ((slc v 0 n 1))) rfl rfl z133 (Holds.sl_one H12_ 2 rfl) H12_ 1 rfl (Nat.le_of_ble_eq_true (by rfl)) ?_)
  intro w13_ S15_ H14_
  replace H14_ : Holds w13_ (ro R :: cl nb 135 [(Value.map (some mb)), ((slc v 0 n 1))] :: sl 77 1 (slc v 0 n 1) n (List.take (n * 1) (ptrs q)) :: fam 137 (List.set (encs q) n (x.b, [(Value.int .i64 x.id), (Value.int .i64 (x.t / 1000000000)), (Value.int .i64 (x.t % 1000000000)), (Value.bool true), (Value.int .i64 (-1))])) :: F) := H14_
  have S16_ := Same.trans S10_ S15_
  refine wpList_nil ?_
  refine (X_then (hK11_ _ _ ?_))
  clear hK11_
  refine C_seq (fun K17_ hK17_ => ?_)
  refine C_reg ?_
  refine S_list (T_val (v := (Value.pointer (some ⟨x.b, 0, none⟩))) (x_move rfl) ?_)
  refine S_list (T_val (v := (Value.iface 77 (Value.pointer (some ⟨x.b, 0, none⟩)))) (by kernel_rfl) ?_)
  refine S_list (T_val (v := (Value.iface 77 (Value.pointer (some ⟨x.b, 0, none⟩)))) (x_assign rfl) ?_)
  refine wpList_nil ?_
  refine (X_then (hK17_ _ _ ?_))
  clear hK17_
  refine C_ret ?_
  refine R_any (v := (Value.iface 77 (Value.pointer (some ⟨x.b, 0, none⟩)))) (run_results1 rfl rfl) ?_
  have H18_ : Holds w13_ (fam 137 (List.set (encs q) n (x.b, [(Value.int .i64 x.id), (Value.int .i64 (x.t / 1000000000)), (Value.int .i64 (x.t % 1000000000)), (Value.bool true), (Value.int .i64 (-1))])) :: ro R :: cl nb 135 [(Value.map (some mb)), ((slc v 0 n 1))] :: sl 77 1 (slc v 0 n 1) n (List.take (n * 1) (ptrs q)) :: F) := (Holds.bring H14_ 3 rfl)
  have H19_ : Holds w13_ (cl x.b 137 [(Value.int .i64 x.id), (Value.int .i64 (x.t / 1000000000)), (Value.int .i64 (x.t % 1000000000)), (Value.bool true), (Value.int .i64 (-1))] :: fam 137 (encs (q.take n)) :: ro R :: cl nb 135 [(Value.map (some mb)), ((slc v 0 n 1))] :: sl 77 1 (slc v 0 n 1) n (List.take (n * 1) (ptrs q)) :: F) := by have := Holds.fam_take (k := n) (b := x.b) H18_ (by simp [encs, hl]; rfl); rwa [fam_last hl] at this
  have H20_ : Holds w13_ (cl x.b 137 [(Value.int .i64 x.id), (Value.int .i64 (x.t / 1000000000)), (Value.int .i64 (x.t % 1000000000)), (Value.bool true), (Value.int .i64 (-1))] :: fam 137 (encs (q.take n)) :: ro R :: cl nb 135 [(Value.map (some mb)), ((slc v 0 n 1))] :: sl 77 1 (slc v 0 n 1) (List.length (q.take n)) (ptrs (q.take n)) :: F) := cast2 (P := fun (c__ : List Value) (k__ : Nat) => Holds w13_ (cl x.b 137 [(Value.int .i64 x.id), (Value.int .i64 (x.t / 1000000000)), (Value.int .i64 (x.t % 1000000000)), (Value.bool true), (Value.int .i64 (-1))] :: fam 137 (encs (q.take n)) :: ro R :: cl nb 135 [(Value.map (some mb)), ((slc v 0 n 1))] :: sl 77 1 (slc v 0 n 1) k__ c__ :: F)) ((by simp [ptrs]) : List.take (n * 1) (ptrs q) = ptrs (q.take n)) ((by simp; omega) : n = (List.length (q.take n))) H19_
  have H21_ : Holds w13_ (ro R :: cl nb 135 [(Value.map (some mb)), ((slc v 0 n 1))] :: sl 77 1 (slc v 0 n 1) (List.length (q.take n)) (ptrs (q.take n)) :: fam 137 (encs (q.take n)) :: cl x.b 137 [(Value.int .i64 x.id), (Value.int .i64 (x.t / 1000000000)), (Value.int .i64 (x.t % 1000000000)), (Value.bool true), (Value.int .i64 (-1))] :: F) := (Holds.bring (Holds.bring (Holds.bring (Holds.bring (Holds.bring H20_ 0 rfl) 1 rfl) 4 rfl) 4 rfl) 4 rfl)
  exact ⟨_, [cl nb 135 [(Value.map (some mb)), ((slc v 0 n 1))], sl 77 1 (slc v 0 n 1) (List.length (q.take n)) (ptrs (q.take n)), fam 137 (encs (q.take n)), cl x.b 137 [(Value.int .i64 x.id), (Value.int .i64 (x.t / 1000000000)), (Value.int .i64 (x.t % 1000000000)), (Value.bool true), (Value.int .i64 (-1))]], rfl, ⟨(slc v 0 n 1), rfl, rfl⟩, S16_, H21_⟩
end Go.Proofs.Ytgeggiebefonhaa
