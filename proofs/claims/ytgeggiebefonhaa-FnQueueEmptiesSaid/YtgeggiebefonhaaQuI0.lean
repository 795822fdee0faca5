/- What a queue of leases comes to: Push, Pop, Fix. -/
import Derived.Test.YtgeggiebefonhaaQuH0
set_option linter.unusedVariables false
set_option linter.unusedSimpArgs false
namespace Go.Proofs.Ytgeggiebefonhaa
open Go Go.RowKit Gw

set_option maxHeartbeats 400000 in
theorem qPush (R : HP) (nb mb : Nat) (v : Value) (q : List Nd) (b : Nat) (id t k : Int) (hn : q.length ≤ 90000) (hh : HeapN q q.length) :
    Tri Try.prog 63 #[(Value.iface 139 (Value.pointer (some ⟨nb, 1, none⟩))), (Value.iface 77 (Value.pointer (some ⟨b, 0, none⟩)))] R [cl nb 135 [(Value.map (some mb)), v], sl 77 1 v (List.length q) (ptrs q), fam 137 (encs q), cl b 137 [(Value.int .i64 id), (Value.int .i64 (t / 1000000000)), (Value.int .i64 (t % 1000000000)), (Value.bool true), (Value.int .i64 k)]] (fun v__ post__ => ∃ (v' : Value) (q' : List Nd), v__ = (Value.tuple #[]) ∧ post__ = [cl nb 135 [(Value.map (some mb)), v'], sl 77 1 v' (List.length q') (ptrs q'), fam 137 (encs q')] ∧ (QP (q ++ [(⟨b, id, t, (q.length : Int)⟩ : Nd)]) q') ∧ (HeapN q' q'.length)) := by
  have hal : List.length (q ++ [(⟨b, id, t, (q.length : Int)⟩ : Nd)]) = q.length + 1 := by simp
  refine Tri.into (n := 12) (al := [(Value.iface 139 (Value.pointer (some ⟨nb, 1, none⟩))), (Value.iface 77 (Value.pointer (some ⟨b, 0, none⟩)))]) Try.func63 rfl Try.ntmps63 rfl rfl fun w F H => ?_
  replace H : Holds w (ro R :: cl nb 135 [(Value.map (some mb)), v] :: sl 77 1 v (List.length q) (ptrs q) :: fam 137 (encs q) :: cl b 137 [(Value.int .i64 id), (Value.int .i64 (t / 1000000000)), (Value.int .i64 (t % 1000000000)), (Value.bool true), (Value.int .i64 k)] :: F) := H
  refine C_seq (fun K1_ hK1_ => ?_)
  refine C_reg ?_
  refine S_list (T_val (v := (Value.iface 139 (Value.pointer (some ⟨nb, 1, none⟩)))) (x_move rfl) ?_)
  refine S_list (T_val (v := (Value.iface 77 (Value.pointer (some ⟨b, 0, none⟩)))) (x_move rfl) ?_)
  refine S_list (T_invoke (al := [(Value.pointer (some ⟨nb, 1, none⟩)), (Value.iface 77 (Value.pointer (some ⟨b, 0, none⟩)))]) (pre := [cl nb 135 [(Value.map (some mb)), v], sl 77 1 v (List.length q) (ptrs q), fam 137 (encs q), cl b 137 [(Value.int .i64 id), (Value.int .i64 (t / 1000000000)), (Value.int .i64 (t % 1000000000)), (Value.bool true), (Value.int .i64 k)]]) (F := F) rfl (fun w => by kernel_rfl) rfl cb162 (qPushM R nb mb v q b id t k (by first | assumption | omega)) H ?_)
  rintro v2_ p7_ w4_ ⟨v3_, rfl, rfl⟩ S6_ H5_
  replace H5_ : Holds w4_ (ro R :: cl nb 135 [(Value.map (some mb)), v3_] :: sl 77 1 v3_ (List.length (q ++ [(⟨b, id, t, (q.length : Int)⟩ : Nd)])) (ptrs (q ++ [(⟨b, id, t, (q.length : Int)⟩ : Nd)])) :: fam 137 (encs (q ++ [(⟨b, id, t, (q.length : Int)⟩ : Nd)])) :: F) := H5_
  have S8_ := Same.trans (Same.refl w) S6_
  refine wpList_nil ?_
  refine (X_then (hK1_ _ _ ?_))
  clear hK1_
  refine C_reg ?_
  refine S_list (T_val (v := (Value.iface 139 (Value.pointer (some ⟨nb, 1, none⟩)))) (x_move rfl) ?_)
  refine S_list (T_val (v := (Value.iface 139 (Value.pointer (some ⟨nb, 1, none⟩)))) (x_move rfl) ?_)
  have H10_ : Holds w4_ (ro R :: sl 77 1 v3_ (List.length (q ++ [(⟨b, id, t, (q.length : Int)⟩ : Nd)])) (ptrs (q ++ [(⟨b, id, t, (q.length : Int)⟩ : Nd)])) :: cl nb 135 [(Value.map (some mb)), v3_] :: fam 137 (encs (q ++ [(⟨b, id, t, (q.length : Int)⟩ : Nd)])) :: F) := (Holds.bring (Holds.bring H5_ 2 rfl) 1 rfl)
  refine S_list (T_invokeP (al := [v3_]) (pre := [sl 77 1 v3_ (List.length (q ++ [(⟨b, id, t, (q.length : Int)⟩ : Nd)])) (ptrs (q ++ [(⟨b, id, t, (q.length : Int)⟩ : Nd)]))]) (F := cl nb 135 [(Value.map (some mb)), v3_] :: fam 137 (encs (q ++ [(⟨b, id, t, (q.length : Int)⟩ : Nd)])) :: F) rfl (by kernel_rfl) Try.underlying139 (load_res1 Try.underlying133 rfl (Holds.cl_cell H10_ 2 rfl (k := 1) (v := v3_) rfl)) rfl cb157 (qLen R v3_ (List.length (q ++ [(⟨b, id, t, (q.length : Int)⟩ : Nd)])) (ptrs (q ++ [(⟨b, id, t, (q.length : Int)⟩ : Nd)]))) H10_ ?_)
  rintro v9_ p14_ w11_ ⟨rfl, rfl⟩ S13_ H12_
  replace H12_ : Holds w11_ (ro R :: sl 77 1 v3_ (List.length (q ++ [(⟨b, id, t, (q.length : Int)⟩ : Nd)])) (ptrs (q ++ [(⟨b, id, t, (q.length : Int)⟩ : Nd)])) :: cl nb 135 [(Value.map (some mb)), v3_] :: fam 137 (encs (q ++ [(⟨b, id, t, (q.length : Int)⟩ : Nd)])) :: F) := H12_
  have S15_ := Same.trans S8_ S13_
  refine S_list (T_val (v := (Value.int .i64 (((List.length (q ++ [(⟨b, id, t, (q.length : Int)⟩ : Nd)]) : Nat) : Int) - 1))) (x_bin rfl rfl (ib_sub (IntWalk.i64_in _ (by omega)))) ?_)
  have H20_ : Holds w11_ (ro R :: cl nb 135 [(Value.map (some mb)), v3_] :: sl 77 1 v3_ (List.length (q ++ [(⟨b, id, t, (q.length : Int)⟩ : Nd)])) (ptrs (q ++ [(⟨b, id, t, (q.length : Int)⟩ : Nd)])) :: fam 137 (encs (q ++ [(⟨b, id, t, (q.length : Int)⟩ : Nd)])) :: F) := (Holds.bring (Holds.bring (Holds.bring (Holds.bring H12_ 3 rfl) 2 rfl) 3 rfl) 3 rfl)
  refine S_list (T_call (al := [(Value.iface 139 (Value.pointer (some ⟨nb, 1, none⟩))), (Value.int .i64 (q.length : Int))]) (pre := [cl nb 135 [(Value.map (some mb)), v3_], sl 77 1 v3_ (List.length (q ++ [(⟨b, id, t, (q.length : Int)⟩ : Nd)])) (ptrs (q ++ [(⟨b, id, t, (q.length : Int)⟩ : Nd)])), fam 137 (encs (q ++ [(⟨b, id, t, (q.length : Int)⟩ : Nd)]))]) (F := F) rfl (lcons rfl (lcons (congrArg (Value.int .i64) ((by first | rfl | omega | (simp; done) | (simp; omega)) : ((List.length (q ++ [(⟨b, id, t, (q.length : Int)⟩ : Nd)]) : Nat) : Int) - 1 = (q.length : Int))) rfl)) cb86 (qUp R nb mb v3_ (q ++ [(⟨b, id, t, (q.length : Int)⟩ : Nd)]) q.length (by first | assumption | omega) (by first | assumption | omega) (up_push hh _)) H20_ ?_)
  rintro v16_ p24_ w21_ ⟨q17_, rfl, rfl, he18_, he19_⟩ S23_ H22_
  replace H22_ : Holds w21_ (ro R :: cl nb 135 [(Value.map (some mb)), v3_] :: sl 77 1 v3_ (List.length q17_) (ptrs q17_) :: fam 137 (encs q17_) :: F) := H22_
  have S25_ := Same.trans S15_ S23_
  refine wpList_nil ?_
  refine R_0 rfl ?_
  exact ⟨_, [cl nb 135 [(Value.map (some mb)), v3_], sl 77 1 v3_ (List.length q17_) (ptrs q17_), fam 137 (encs q17_)], rfl, ⟨v3_, q17_, rfl, rfl, (by first | assumption | omega | exact rfl), (by first | assumption | omega | exact rfl)⟩, S25_, H22_⟩

set_option maxHeartbeats 400000 in
theorem qPop (R : HP) (nb mb : Nat) (v : Value) (q : List Nd) (n : Nat) (x : Nd) (hl : q.length = n + 1) (hx : q[0]? = some x) (hn : q.length ≤ 90000) (hh : HeapN q q.length) :
    Tri Try.prog 65 #[(Value.iface 139 (Value.pointer (some ⟨nb, 1, none⟩)))] R [cl nb 135 [(Value.map (some mb)), v], sl 77 1 v (List.length q) (ptrs q), fam 137 (encs q)] (fun v__ post__ => ∃ (v' : Value) (q' : List Nd), v__ = (Value.iface 77 (Value.pointer (some ⟨x.b, 0, none⟩))) ∧ post__ = [cl nb 135 [(Value.map (some mb)), v'], sl 77 1 v' (List.length q') (ptrs q'), fam 137 (encs q'), cl x.b 137 [(Value.int .i64 x.id), (Value.int .i64 (x.t / 1000000000)), (Value.int .i64 (x.t % 1000000000)), (Value.bool true), (Value.int .i64 (-1))]] ∧ ((q.map Nd.key).Perm (x.key :: q'.map Nd.key)) ∧ (Good q → Good q') ∧ (HeapN q' q'.length) ∧ (q'.length = n)) := by
  obtain ⟨y, hy, -⟩ := elem_at q n (by omega)
  have hsl : List.length (swp q 0 n x y) = q.length := swp_len ..
  have hdi := DI.root (by rw [← hl]; exact hh) hl.symm hx hy
  refine Tri.into (n := 15) (al := [(Value.iface 139 (Value.pointer (some ⟨nb, 1, none⟩)))]) Try.func65 rfl Try.ntmps65 rfl rfl fun w F H => ?_
  replace H : Holds w (ro R :: cl nb 135 [(Value.map (some mb)), v] :: sl 77 1 v (List.length q) (ptrs q) :: fam 137 (encs q) :: F) := H
  refine C_seq (fun K1_ hK1_ => ?_)
  refine C_reg ?_
  refine S_list (T_val (v := (Value.nilIface)) (x_assign rfl) ?_)
  refine wpList_nil ?_
  refine (X_then (hK1_ _ _ ?_))
  clear hK1_
  refine C_seq (fun K2_ hK2_ => ?_)
  refine C_reg ?_
  refine S_list (T_val (v := (Value.iface 139 (Value.pointer (some ⟨nb, 1, none⟩)))) (x_move rfl) ?_)
  have H4_ : Holds w (ro R :: sl 77 1 v (List.length q) (ptrs q) :: cl nb 135 [(Value.map (some mb)), v] :: fam 137 (encs q) :: F) := (Holds.bring (Holds.bring H 2 rfl) 1 rfl)
  refine S_list (T_invokeP (al := [v]) (pre := [sl 77 1 v (List.length q) (ptrs q)]) (F := cl nb 135 [(Value.map (some mb)), v] :: fam 137 (encs q) :: F) rfl (by kernel_rfl) Try.underlying139 (load_res1 Try.underlying133 rfl (Holds.cl_cell H4_ 2 rfl (k := 1) (v := v) rfl)) rfl cb157 (qLen R v (List.length q) (ptrs q)) H4_ ?_)
  rintro v3_ p8_ w5_ ⟨rfl, rfl⟩ S7_ H6_
  replace H6_ : Holds w5_ (ro R :: sl 77 1 v (List.length q) (ptrs q) :: cl nb 135 [(Value.map (some mb)), v] :: fam 137 (encs q) :: F) := H6_
  have S9_ := Same.trans (Same.refl w) S7_
  refine S_list (T_val (v := (Value.int .i64 (n : Int))) (x_bin rfl rfl (by rw [hl]; exact ib_subN (x := n + 1) (y := 1) rfl rfl (by omega) (by omega) rfl)) ?_)
  refine S_list (T_val (v := (Value.int .i64 (n : Int))) (x_assign rfl) ?_)
  refine wpList_nil ?_
  refine (X_then (hK2_ _ _ ?_))
  clear hK2_
  refine C_seq (fun K10_ hK10_ => ?_)
  refine C_reg ?_
  refine S_list (T_val (v := (Value.iface 139 (Value.pointer (some ⟨nb, 1, none⟩)))) (x_move rfl) ?_)
  refine S_list (T_val (v := (Value.int .i64 (n : Int))) (x_move rfl) ?_)
  have H12_ : Holds w5_ (ro R :: sl 77 1 v (List.length q) (ptrs q) :: fam 137 (encs q) :: cl nb 135 [(Value.map (some mb)), v] :: F) := (Holds.bring (Holds.bring (Holds.bring H6_ 3 rfl) 2 rfl) 2 rfl)
  refine S_list (T_invokeP (al := [v, (Value.int .i64 (0 : Int)), (Value.int .i64 (n : Int))]) (pre := [sl 77 1 v (List.length q) (ptrs q), fam 137 (encs q)]) (F := cl nb 135 [(Value.map (some mb)), v] :: F) rfl (by kernel_rfl) Try.underlying139 (load_res1 Try.underlying133 rfl (Holds.cl_cell H12_ 3 rfl (k := 1) (v := v) rfl)) (lcons rfl (lcons (congrArg (Value.int .i64) ((by first | rfl | omega | (simp; done) | (simp; omega)) : 0 = (0 : Int))) rfl)) cb159 (qSwap R v q 0 n x y (by first | assumption | omega) (by first | assumption | omega)) H12_ ?_)
  rintro v11_ p16_ w13_ ⟨rfl, rfl⟩ S15_ H14_
  replace H14_ : Holds w13_ (ro R :: sl 77 1 v (List.length (swp q 0 n x y)) (ptrs (swp q 0 n x y)) :: fam 137 (encs (swp q 0 n x y)) :: cl nb 135 [(Value.map (some mb)), v] :: F) := H14_
  have S17_ := Same.trans S9_ S15_
  refine wpList_nil ?_
  refine (X_then (hK10_ _ _ ?_))
  clear hK10_
  refine C_seq (fun K18_ hK18_ => ?_)
  refine C_reg ?_
  refine S_list (T_val (v := (Value.iface 139 (Value.pointer (some ⟨nb, 1, none⟩)))) (x_move rfl) ?_)
  refine S_list (T_val (v := (Value.int .i64 (n : Int))) (x_move rfl) ?_)
  have H24_ : Holds w13_ (ro R :: cl nb 135 [(Value.map (some mb)), v] :: sl 77 1 v (List.length (swp q 0 n x y)) (ptrs (swp q 0 n x y)) :: fam 137 (encs (swp q 0 n x y)) :: F) := (Holds.bring (Holds.bring (Holds.bring (Holds.bring H14_ 2 rfl) 2 rfl) 3 rfl) 3 rfl)
  refine S_list (T_call (al := [(Value.iface 139 (Value.pointer (some ⟨nb, 1, none⟩))), (Value.int .i64 (0 : Int)), (Value.int .i64 (n : Int))]) (pre := [cl nb 135 [(Value.map (some mb)), v], sl 77 1 v (List.length (swp q 0 n x y)) (ptrs (swp q 0 n x y)), fam 137 (encs (swp q 0 n x y))]) (F := F) rfl (lcons rfl (lcons (congrArg (Value.int .i64) ((by first | rfl | omega | (simp; done) | (simp; omega)) : 0 = (0 : Int))) rfl)) cb85 (qDown R nb mb v (swp q 0 n x y) 0 n (by first | assumption | omega) (by first | assumption | omega) (by first | assumption | omega) (hdi)) H24_ ?_)
  rintro v19_ p28_ w25_ ⟨b20_, q21_, rfl, rfl, he22_, he23_⟩ S27_ H26_
  replace H26_ : Holds w25_ (ro R :: cl nb 135 [(Value.map (some mb)), v] :: sl 77 1 v (List.length q21_) (ptrs q21_) :: fam 137 (encs q21_) :: F) := H26_
  have S29_ := Same.trans S17_ S27_
  refine wpList_nil ?_
  refine (X_then (hK18_ _ _ ?_))
  clear hK18_
  refine C_seq (fun K30_ hK30_ => ?_)
  refine C_reg ?_
  refine S_list (T_val (v := (Value.iface 139 (Value.pointer (some ⟨nb, 1, none⟩)))) (x_move rfl) ?_)
  refine S_list (T_invoke (al := [(Value.pointer (some ⟨nb, 1, none⟩))]) (pre := [cl nb 135 [(Value.map (some mb)), v], sl 77 1 v (List.length q21_) (ptrs q21_), fam 137 (encs q21_)]) (F := F) rfl (fun w => by kernel_rfl) rfl cb161 (qPopM R nb mb v q21_ n ({ x with idx := (n : Int) }) (pop_len he22_ hl) (by rw [he23_.2.2 n (Nat.le_refl _)]; exact swp_j hy) (by rw [pop_len he22_ hl]; omega)) H26_ ?_)
  rintro v31_ p36_ w33_ ⟨v32_, rfl, rfl⟩ S35_ H34_
  replace H34_ : Holds w33_ (ro R :: cl nb 135 [(Value.map (some mb)), v32_] :: sl 77 1 v32_ (List.length (q21_.take n)) (ptrs (q21_.take n)) :: fam 137 (encs (q21_.take n)) :: cl x.b 137 [(Value.int .i64 x.id), (Value.int .i64 (x.t / 1000000000)), (Value.int .i64 (x.t % 1000000000)), (Value.bool true), (Value.int .i64 (-1))] :: F) := H34_
  have S37_ := Same.trans S29_ S35_
  refine S_list (T_val (v := (Value.iface 77 (Value.pointer (some ⟨x.b, 0, none⟩)))) (x_assign rfl) ?_)
  refine wpList_nil ?_
  refine (X_then (hK30_ _ _ ?_))
  clear hK30_
  refine C_ret ?_
  refine R_any (v := (Value.iface 77 (Value.pointer (some ⟨x.b, 0, none⟩)))) (run_results1 rfl rfl) ?_
  exact ⟨_, [cl nb 135 [(Value.map (some mb)), v32_], sl 77 1 v32_ (List.length (q21_.take n)) (ptrs (q21_.take n)), fam 137 (encs (q21_.take n)), cl x.b 137 [(Value.int .i64 x.id), (Value.int .i64 (x.t / 1000000000)), (Value.int .i64 (x.t % 1000000000)), (Value.bool true), (Value.int .i64 (-1))]], rfl, ⟨v32_, (q21_.take n), rfl, rfl, (pop_perm he22_ hx hy hl (by rw [he23_.2.2 n (Nat.le_refl _)]; exact swp_j hy)), (fun gd => good_take (he22_.2.1 (good_swp hx hy gd))), (heap_take (DEnd.heap he23_ hdi) (by rw [pop_len he22_ hl]; omega)), (by rw [List.length_take, pop_len he22_ hl]; omega)⟩, S37_, H34_⟩

set_option maxHeartbeats 400000 in
theorem qFix (R : HP) (nb mb : Nat) (v : Value) (q : List Nd) (i : Nat) (x : Nd) (t : Int) (hx : q[i]? = some x) (hn : q.length ≤ 90000) (hh : HeapN q q.length) :
    Tri Try.prog 62 #[(Value.iface 139 (Value.pointer (some ⟨nb, 1, none⟩))), (Value.int .i64 (i : Int))] R [cl nb 135 [(Value.map (some mb)), v], sl 77 1 v (List.length (retime q i x t)) (ptrs (retime q i x t)), fam 137 (encs (retime q i x t))] (fun v__ post__ => ∃ (q' : List Nd), v__ = (Value.tuple #[]) ∧ post__ = [cl nb 135 [(Value.map (some mb)), v], sl 77 1 v (List.length q') (ptrs q'), fam 137 (encs q')] ∧ (QP (retime q i x t) q') ∧ (HeapN q' q'.length)) := by
  have hil := (List.getElem?_eq_some_iff.1 hx).1
  have hrl : (retime q i x t).length = q.length := by simp [retime]
  refine Tri.into (n := 13) (al := [(Value.iface 139 (Value.pointer (some ⟨nb, 1, none⟩))), (Value.int .i64 (i : Int))]) Try.func62 rfl Try.ntmps62 rfl rfl fun w F H => ?_
  replace H : Holds w (ro R :: cl nb 135 [(Value.map (some mb)), v] :: sl 77 1 v (List.length (retime q i x t)) (ptrs (retime q i x t)) :: fam 137 (encs (retime q i x t)) :: F) := H
  refine C_seq (fun K1_ hK1_ => ?_)
  refine C_reg ?_
  refine S_list (T_val (v := (Value.iface 139 (Value.pointer (some ⟨nb, 1, none⟩)))) (x_move rfl) ?_)
  refine S_list (T_val (v := (Value.int .i64 (i : Int))) (x_move rfl) ?_)
  refine S_list (T_val (v := (Value.iface 139 (Value.pointer (some ⟨nb, 1, none⟩)))) (x_move rfl) ?_)
  have H3_ : Holds w (ro R :: sl 77 1 v (List.length (retime q i x t)) (ptrs (retime q i x t)) :: cl nb 135 [(Value.map (some mb)), v] :: fam 137 (encs (retime q i x t)) :: F) := (Holds.bring (Holds.bring H 2 rfl) 1 rfl)
  refine S_list (T_invokeP (al := [v]) (pre := [sl 77 1 v (List.length (retime q i x t)) (ptrs (retime q i x t))]) (F := cl nb 135 [(Value.map (some mb)), v] :: fam 137 (encs (retime q i x t)) :: F) rfl (by kernel_rfl) Try.underlying139 (load_res1 Try.underlying133 rfl (Holds.cl_cell H3_ 2 rfl (k := 1) (v := v) rfl)) rfl cb157 (qLen R v (List.length (retime q i x t)) (ptrs (retime q i x t))) H3_ ?_)
  rintro v2_ p7_ w4_ ⟨rfl, rfl⟩ S6_ H5_
  replace H5_ : Holds w4_ (ro R :: sl 77 1 v (List.length (retime q i x t)) (ptrs (retime q i x t)) :: cl nb 135 [(Value.map (some mb)), v] :: fam 137 (encs (retime q i x t)) :: F) := H5_
  have S8_ := Same.trans (Same.refl w) S6_
  have H14_ : Holds w4_ (ro R :: cl nb 135 [(Value.map (some mb)), v] :: sl 77 1 v (List.length (retime q i x t)) (ptrs (retime q i x t)) :: fam 137 (encs (retime q i x t)) :: F) := (Holds.bring (Holds.bring (Holds.bring (Holds.bring H5_ 3 rfl) 2 rfl) 3 rfl) 3 rfl)
  refine S_list (T_call (al := [(Value.iface 139 (Value.pointer (some ⟨nb, 1, none⟩))), (Value.int .i64 (i : Int)), (Value.int .i64 ((List.length (retime q i x t) : Nat) : Int))]) (pre := [cl nb 135 [(Value.map (some mb)), v], sl 77 1 v (List.length (retime q i x t)) (ptrs (retime q i x t)), fam 137 (encs (retime q i x t))]) (F := F) rfl rfl cb85 (qDown R nb mb v (retime q i x t) i (List.length (retime q i x t)) (by first | assumption | omega) (by first | assumption | omega) (by first | assumption | omega) (by rw [hrl]; exact DI.retime hh hx)) H14_ ?_)
  rintro v9_ p18_ w15_ ⟨b10_, q11_, rfl, rfl, he12_, he13_⟩ S17_ H16_
  replace H16_ : Holds w15_ (ro R :: cl nb 135 [(Value.map (some mb)), v] :: sl 77 1 v (List.length q11_) (ptrs q11_) :: fam 137 (encs q11_) :: F) := H16_
  have S19_ := Same.trans S8_ S17_
  refine S_list (T_val (v := (Value.bool (!b10_))) (x_not rfl) ?_)
  refine wpList_nil ?_
  refine (X_then (hK1_ _ _ ?_))
  clear hK1_
  refine C_cond (b := !b10_) rfl (fun c20_t => ?_) (fun c20_f => ?_)
  · skip
    refine C_reg ?_
    refine S_list (T_val (v := (Value.iface 139 (Value.pointer (some ⟨nb, 1, none⟩)))) (x_move rfl) ?_)
    refine S_list (T_val (v := (Value.int .i64 (i : Int))) (x_move rfl) ?_)
    refine S_list (T_call (al := [(Value.iface 139 (Value.pointer (some ⟨nb, 1, none⟩))), (Value.int .i64 (i : Int))]) (pre := [cl nb 135 [(Value.map (some mb)), v], sl 77 1 v (List.length q11_) (ptrs q11_), fam 137 (encs q11_)]) (F := F) rfl rfl cb86 (qUp R nb mb v q11_ i (by rw [he12_.2.2]; omega) (by rw [he12_.2.2]; omega) (fix_up hh hx (by rw [← hrl]; exact he13_) (by simp_all))) H16_ ?_)
    rintro v21_ p28_ w25_ ⟨q22_, rfl, rfl, he23_, he24_⟩ S27_ H26_
    replace H26_ : Holds w25_ (ro R :: cl nb 135 [(Value.map (some mb)), v] :: sl 77 1 v (List.length q22_) (ptrs q22_) :: fam 137 (encs q22_) :: F) := H26_
    have S29_ := Same.trans S19_ S27_
    refine wpList_nil ?_
    refine R_0 rfl ?_
    exact ⟨_, [cl nb 135 [(Value.map (some mb)), v], sl 77 1 v (List.length q22_) (ptrs q22_), fam 137 (encs q22_)], rfl, ⟨q22_, rfl, rfl, (he12_.trans he23_), (he24_)⟩, S29_, H26_⟩
  · skip
    refine C_skip ?_
    refine R_0 rfl ?_
    exact ⟨_, [cl nb 135 [(Value.map (some mb)), v], sl 77 1 v (List.length q11_) (ptrs q11_), fam 137 (encs q11_)], rfl, ⟨q11_, rfl, rfl, (he12_), (by rw [he12_.2.2]; exact he13_.1 (by simp_all))⟩, S19_, H16_⟩
end Go.Proofs.Ytgeggiebefonhaa
