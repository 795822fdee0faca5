/- What the frame of a record comes to. -/
import Derived.Test.YtgeggiebefonhaaWaB0
set_option linter.unusedVariables false
set_option linter.unusedSimpArgs false
namespace Go.Proofs.Ytgeggiebefonhaa
open Go Go.RowKit Gw

set_option maxHeartbeats 400000 in
theorem wSize (R : HP) (n : Nat) (q0 : n ≤ 1000000000) :
    Tri Try.prog 113 #[(Value.int .i64 (n : Int))] R [] (fun v__ post__ => v__ = (Value.tuple #[(Value.int .u64 (lenField n)), (Value.int .i64 (wpad n : Int))]) ∧ post__ = []) := by
  have hp8 : wpad n < 8 := Nat.mod_lt _ (by omega)
  refine Tri.into (n := 20) (al := [(Value.int .i64 (n : Int))]) Try.func113 rfl Try.ntmps113 rfl rfl fun w F H => ?_
  replace H : Holds w (ro R :: F) := H
  refine C_seq (fun K1_ hK1_ => ?_)
  refine C_reg ?_
  refine S_list (T_val (v := (Value.int .u64 0)) (x_assign rfl) ?_)
  refine S_list (T_val (v := (Value.int .i64 0)) (x_assign rfl) ?_)
  refine wpList_nil ?_
  refine (X_then (hK1_ _ _ ?_))
  clear hK1_
  refine C_seq (fun K2_ hK2_ => ?_)
  refine C_reg ?_
  refine S_list (T_val (v := (Value.int .i64 (n : Int))) (x_move rfl) ?_)
  refine S_list (T_val (v := (Value.int .u64 (IntKind.u64.wrap (n : Int)))) (x_convI rfl Try.underlying3 Try.underlying171 rfl) ?_)
  refine S_list (T_val (v := (Value.int .u64 (IntKind.u64.wrap (n : Int)))) (x_assign rfl) ?_)
  refine wpList_nil ?_
  refine (X_then (hK2_ _ _ ?_))
  clear hK2_
  refine C_seq (fun K3_ hK3_ => ?_)
  refine C_reg ?_
  refine S_list (T_val (v := (Value.int .i64 (n : Int))) (x_move rfl) ?_)
  refine S_list (T_val (v := (Value.int .i64 ((n % 8 : Nat) : Int))) (x_bin rfl rfl (ib_remN (x := n) (y := 8) rfl rfl (by omega) (by omega) rfl)) ?_)
  refine S_list (T_val (v := (Value.int .i64 ((8 - n % 8 : Nat) : Int))) (x_bin rfl rfl (ib_subN (x := 8) (y := n % 8) rfl rfl (by omega) (by omega) rfl)) ?_)
  refine S_list (T_val (v := (Value.int .i64 (wpad n : Int))) (x_bin rfl rfl (ib_remN (x := 8 - n % 8) (y := 8) rfl rfl (by omega) (by omega) rfl)) ?_)
  refine S_list (T_val (v := (Value.int .i64 (wpad n : Int))) (x_assign rfl) ?_)
  refine wpList_nil ?_
  refine (X_then (hK3_ _ _ ?_))
  clear hK3_
  refine C_seq (fun K4_ hK4_ => ?_)
  refine C_seq (fun K5_ hK5_ => ?_)
  refine C_reg ?_
  refine S_list (T_val (v := (Value.int .i64 (wpad n : Int))) (x_move rfl) ?_)
  refine S_list (T_val (v := (Value.bool (decide ((wpad n : Int) ≠ 0)))) (x_bin rfl rfl rfl) ?_)
  refine wpList_nil ?_
  refine (X_then (hK5_ _ _ ?_))
  clear hK5_
  refine C_cond (b := decide ((wpad n : Int) ≠ 0)) rfl (fun c6_t => ?_) (fun c6_f => ?_)
  · have c6_tp : (wpad n : Int) ≠ 0 := of_decide_eq_true c6_t
    refine C_reg ?_
    refine S_list (T_val (v := (Value.int .u64 (IntKind.u64.wrap (n : Int)))) (x_move rfl) ?_)
    refine S_list (T_val (v := (Value.int .i64 (wpad n : Int))) (x_move rfl) ?_)
    refine S_list (T_val (v := (Value.int .i64 (ior .i64 128 (wpad n : Int)))) (x_bin rfl rfl rfl) ?_)
    refine S_list (T_val (v := (Value.int .u64 (IntKind.u64.wrap (ior .i64 128 (wpad n : Int))))) (x_convI rfl Try.underlying3 Try.underlying171 rfl) ?_)
    refine S_list (T_val (v := (Value.int .u64 (IntKind.u64.wrap ((IntKind.u64.wrap (ior .i64 128 (wpad n : Int))) * 72057594037927936)))) (x_shl rfl rfl (by omega) rfl) ?_)
    refine S_list (T_val (v := (Value.int .u64 (ior .u64 (IntKind.u64.wrap (n : Int)) (IntKind.u64.wrap ((IntKind.u64.wrap (ior .i64 128 (wpad n : Int))) * 72057594037927936))))) (x_bin rfl rfl rfl) ?_)
    refine S_list (T_val (v := (Value.int .u64 (ior .u64 (IntKind.u64.wrap (n : Int)) (IntKind.u64.wrap ((IntKind.u64.wrap (ior .i64 128 (wpad n : Int))) * 72057594037927936))))) (x_assign rfl) ?_)
    refine wpList_nil ?_
    refine (X_then (hK4_ _ _ ?_))
    clear hK4_
    refine C_seq (fun K7_ hK7_ => ?_)
    refine C_reg ?_
    refine S_list (T_val (v := (Value.int .u64 (ior .u64 (IntKind.u64.wrap (n : Int)) (IntKind.u64.wrap ((IntKind.u64.wrap (ior .i64 128 (wpad n : Int))) * 72057594037927936))))) (x_move rfl) ?_)
    refine S_list (T_val (v := (Value.int .i64 (wpad n : Int))) (x_move rfl) ?_)
    refine S_list (T_val (v := (Value.int .u64 (ior .u64 (IntKind.u64.wrap (n : Int)) (IntKind.u64.wrap ((IntKind.u64.wrap (ior .i64 128 (wpad n : Int))) * 72057594037927936))))) (x_assign rfl) ?_)
    refine S_list (T_val (v := (Value.int .i64 (wpad n : Int))) (x_assign rfl) ?_)
    refine wpList_nil ?_
    refine (X_then (hK7_ _ _ ?_))
    clear hK7_
    refine C_ret ?_
    refine R_any (v := (Value.tuple #[(Value.int .u64 (ior .u64 (IntKind.u64.wrap (n : Int)) (IntKind.u64.wrap ((IntKind.u64.wrap (ior .i64 128 (wpad n : Int))) * 72057594037927936)))), (Value.int .i64 (wpad n : Int))])) (run_results2 rfl rfl rfl) ?_
    exact ⟨_, [], rfl, ⟨(congrArg (fun l => Value.tuple (List.toArray l)) (lcons (congrArg (Value.int .u64) ((by unfold lenField; rw [if_pos (by omega)]) : ior .u64 (IntKind.u64.wrap (n : Int)) (IntKind.u64.wrap ((IntKind.u64.wrap (ior .i64 128 (wpad n : Int))) * 72057594037927936)) = lenField n)) rfl)), rfl⟩, (Same.refl w), H⟩
  · have c6_fp : ¬ ((wpad n : Int) ≠ 0) := of_decide_eq_false c6_f
    refine C_skip (X_then (hK4_ _ _ ?_))
    clear hK4_
    refine C_seq (fun K8_ hK8_ => ?_)
    refine C_reg ?_
    refine S_list (T_val (v := (Value.int .u64 (IntKind.u64.wrap (n : Int)))) (x_move rfl) ?_)
    refine S_list (T_val (v := (Value.int .i64 (wpad n : Int))) (x_move rfl) ?_)
    refine S_list (T_val (v := (Value.int .u64 (IntKind.u64.wrap (n : Int)))) (x_assign rfl) ?_)
    refine S_list (T_val (v := (Value.int .i64 (wpad n : Int))) (x_assign rfl) ?_)
    refine wpList_nil ?_
    refine (X_then (hK8_ _ _ ?_))
    clear hK8_
    refine C_ret ?_
    refine R_any (v := (Value.tuple #[(Value.int .u64 (IntKind.u64.wrap (n : Int))), (Value.int .i64 (wpad n : Int))])) (run_results2 rfl rfl rfl) ?_
    exact ⟨_, [], rfl, ⟨(congrArg (fun l => Value.tuple (List.toArray l)) (lcons (congrArg (Value.int .u64) ((by unfold lenField; rw [if_neg (by omega)]) : IntKind.u64.wrap (n : Int) = lenField n)) rfl)), rfl⟩, (Same.refl w), H⟩

set_option maxHeartbeats 400000 in
theorem wPad (R : HP) (v : Value) (b : List Int) (q0 : b.length ≤ 10000000) :
    Tri Try.prog 102 #[v] R [sl 5 1 v (List.length b) (bytesV b)] (fun v__ post__ => ∃ (v' : Value), v__ = (Value.tuple #[v', (Value.int .u64 (lenField b.length))]) ∧ post__ = [sl 5 1 v' (List.length (b ++ List.replicate (wpad b.length) 0)) (bytesV (b ++ List.replicate (wpad b.length) 0))]) := by
  have hp8 : wpad b.length < 8 := Nat.mod_lt _ (by omega)
  refine Tri.into (n := 19) (al := [v]) Try.func102 rfl Try.ntmps102 rfl rfl fun w F H => ?_
  replace H : Holds w (ro R :: sl 5 1 v (List.length b) (bytesV b) :: F) := H
  refine C_seq (fun K1_ hK1_ => ?_)
  refine C_reg ?_
  refine S_list (T_val (v := (Value.slice none 0 0)) (x_assign rfl) ?_)
  refine S_list (T_val (v := (Value.int .u64 0)) (x_assign rfl) ?_)
  refine wpList_nil ?_
  refine (X_then (hK1_ _ _ ?_))
  clear hK1_
  refine C_seq (fun K2_ hK2_ => ?_)
  refine C_reg ?_
  refine S_list (T_val (v := v) (x_move rfl) ?_)
  refine S_list (T_val (v := (Value.int .i64 ((List.length b) : Int))) (x_lenSl rfl H 1 rfl Try.underlying43) ?_)
  refine S_list (T_call (al := [(Value.int .i64 (b.length : Int))]) (pre := []) (F := sl 5 1 v (List.length b) (bytesV b) :: F) rfl (lcons (congrArg (Value.int .i64) ((by first | rfl | omega | (simp; done) | (simp; omega)) : ((List.length b) : Int) = (b.length : Int))) rfl) cb113 (wSize R b.length (by first | assumption | omega)) H ?_)
  rintro v3_ p7_ w4_ ⟨rfl, rfl⟩ S6_ H5_
  replace H5_ : Holds w4_ (ro R :: sl 5 1 v (List.length b) (bytesV b) :: F) := H5_
  have S8_ := Same.trans (Same.refl w) S6_
  refine S_list (T_val (v := (Value.tuple #[(Value.int .u64 (lenField b.length)), (Value.int .i64 (wpad b.length : Int))])) (x_move rfl) ?_)
  refine S_list (T_val (v := (Value.int .u64 (lenField b.length))) (by kernel_rfl) ?_)
  refine S_list (T_val (v := (Value.int .i64 (wpad b.length : Int))) (by kernel_rfl) ?_)
  refine S_list (T_val (v := (Value.int .u64 (lenField b.length))) (x_assign rfl) ?_)
  refine S_list (T_val (v := (Value.int .i64 (wpad b.length : Int))) (x_assign rfl) ?_)
  refine wpList_nil ?_
  refine (X_then (hK2_ _ _ ?_))
  clear hK2_
  refine C_seq (fun K9_ hK9_ => ?_)
  refine C_seq (fun K10_ hK10_ => ?_)
  refine C_reg ?_
  refine S_list (T_val (v := (Value.int .i64 (wpad b.length : Int))) (x_move rfl) ?_)
  refine S_list (T_val (v := (Value.bool (decide ((wpad b.length : Int) ≠ 0)))) (x_bin rfl rfl rfl) ?_)
  refine wpList_nil ?_
  refine (X_then (hK10_ _ _ ?_))
  clear hK10_
  refine C_cond (b := decide ((wpad b.length : Int) ≠ 0)) rfl (fun c11_t => ?_) (fun c11_f => ?_)
  · have c11_tp : (wpad b.length : Int) ≠ 0 := of_decide_eq_true c11_t
    refine C_reg ?_
    refine S_list (T_val (v := v) (x_move rfl) ?_)
    refine S_list (T_val (v := (Value.int .i64 (wpad b.length : Int))) (x_move rfl) ?_)
    refine S_list (T_appendZ (k := wpad b.length) rfl rfl (by omega) Try.underlying43 Try.underlying3 z5 rfl (by decide) (by omega) H5_ 1 rfl (by first | omega | (simp only [List.length_append, List.length_cons, List.length_nil]; omega)) ?_)
    intro v12_ w13_ S15_ H14_
    replace H14_ : Holds w13_ (ro R :: sl 5 1 v12_ ((List.length b) + (wpad b.length)) ((bytesV b) ++ List.replicate (wpad b.length) (Value.int .u8 0)) :: F) := H14_
    have S16_ := Same.trans S8_ S15_
    have H17_ : Holds w13_ (ro R :: sl 5 1 v12_ (List.length (b ++ (List.replicate (wpad b.length) 0))) (bytesV (b ++ (List.replicate (wpad b.length) 0))) :: F) := cast2 (P := fun (c__ : List Value) (k__ : Nat) => Holds w13_ (ro R :: sl 5 1 v12_ k__ c__ :: F)) (by rw [bytesV_rep, bytesV_app] : (bytesV b) ++ List.replicate (wpad b.length) (Value.int .u8 0) = bytesV (b ++ (List.replicate (wpad b.length) 0))) (by first | (simp; done) | (simp; omega) | (have := RS.blen trivial; simp; omega) : (List.length b) + (wpad b.length) = (List.length (b ++ (List.replicate (wpad b.length) 0)))) H14_
    refine S_list (T_val (v := v12_) (x_assign rfl) ?_)
    refine wpList_nil ?_
    refine (X_then (hK9_ _ _ ?_))
    clear hK9_
    refine C_seq (fun K18_ hK18_ => ?_)
    refine C_reg ?_
    refine S_list (T_val (v := v12_) (x_move rfl) ?_)
    refine S_list (T_val (v := (Value.int .u64 (lenField b.length))) (x_move rfl) ?_)
    refine S_list (T_val (v := v12_) (x_assign rfl) ?_)
    refine S_list (T_val (v := (Value.int .u64 (lenField b.length))) (x_assign rfl) ?_)
    refine wpList_nil ?_
    refine (X_then (hK18_ _ _ ?_))
    clear hK18_
    refine C_ret ?_
    refine R_any (v := (Value.tuple #[v12_, (Value.int .u64 (lenField b.length))])) (run_results2 rfl rfl rfl) ?_
    have H19_ : Holds w13_ (ro R :: sl 5 1 v12_ (List.length (b ++ List.replicate (wpad b.length) 0)) (bytesV (b ++ List.replicate (wpad b.length) 0)) :: F) := cast2 (P := fun (c__ : List Value) (k__ : Nat) => Holds w13_ (ro R :: sl 5 1 v12_ k__ c__ :: F)) ((by simp) : bytesV (b ++ (List.replicate (wpad b.length) 0)) = bytesV (b ++ List.replicate (wpad b.length) 0)) ((by simp) : (List.length (b ++ (List.replicate (wpad b.length) 0))) = (List.length (b ++ List.replicate (wpad b.length) 0))) H17_
    exact ⟨_, [sl 5 1 v12_ (List.length (b ++ List.replicate (wpad b.length) 0)) (bytesV (b ++ List.replicate (wpad b.length) 0))], rfl, ⟨v12_, rfl, rfl⟩, S16_, H19_⟩
  · have c11_fp : ¬ ((wpad b.length : Int) ≠ 0) := of_decide_eq_false c11_f
    refine C_skip (X_then (hK9_ _ _ ?_))
    clear hK9_
    refine C_seq (fun K20_ hK20_ => ?_)
    refine C_reg ?_
    refine S_list (T_val (v := v) (x_move rfl) ?_)
    refine S_list (T_val (v := (Value.int .u64 (lenField b.length))) (x_move rfl) ?_)
    refine S_list (T_val (v := v) (x_assign rfl) ?_)
    refine S_list (T_val (v := (Value.int .u64 (lenField b.length))) (x_assign rfl) ?_)
    refine wpList_nil ?_
    refine (X_then (hK20_ _ _ ?_))
    clear hK20_
    refine C_ret ?_
    refine R_any (v := (Value.tuple #[v, (Value.int .u64 (lenField b.length))])) (run_results2 rfl rfl rfl) ?_
    have H21_ : Holds w4_ (ro R :: sl 5 1 v (List.length (b ++ List.replicate (wpad b.length) 0)) (bytesV (b ++ List.replicate (wpad b.length) 0)) :: F) := cast2 (P := fun (c__ : List Value) (k__ : Nat) => Holds w4_ (ro R :: sl 5 1 v k__ c__ :: F)) ((by rw [show wpad b.length = 0 by omega]; simp) : bytesV b = bytesV (b ++ List.replicate (wpad b.length) 0)) ((by rw [show wpad b.length = 0 by omega]; simp) : (List.length b) = (List.length (b ++ List.replicate (wpad b.length) 0))) H5_
    exact ⟨_, [sl 5 1 v (List.length (b ++ List.replicate (wpad b.length) 0)) (bytesV (b ++ List.replicate (wpad b.length) 0))], rfl, ⟨v, rfl, rfl⟩, S8_, H21_⟩

set_option maxHeartbeats 400000 in
theorem wLe8 (R : HP) (ub : Nat) (x : Int) (c0 c1 c2 c3 c4 c5 c6 c7 : Value) :
    Tri Try.prog 114 #[(Value.slice (some ⟨ub, 0, none⟩) 8 8), (Value.int .u64 x)] R [cl ub 5 [c0, c1, c2, c3, c4, c5, c6, c7]] (fun v__ post__ => v__ = (Value.tuple #[]) ∧ post__ = [cl ub 5 [(Value.int .u8 (IntKind.u8.wrap (x / 1))), (Value.int .u8 (IntKind.u8.wrap (x / 256))), (Value.int .u8 (IntKind.u8.wrap (x / 65536))), (Value.int .u8 (IntKind.u8.wrap (x / 16777216))), (Value.int .u8 (IntKind.u8.wrap (x / 4294967296))), (Value.int .u8 (IntKind.u8.wrap (x / 1099511627776))), (Value.int .u8 (IntKind.u8.wrap (x / 281474976710656))), (Value.int .u8 (IntKind.u8.wrap (x / 72057594037927936)))]]) := by
  refine Tri.into (n := 18) (al := [(Value.slice (some ⟨ub, 0, none⟩) 8 8), (Value.int .u64 x)]) Try.func114 rfl Try.ntmps114 rfl rfl fun w F H => ?_
  replace H : Holds w (ro R :: cl ub 5 [c0, c1, c2, c3, c4, c5, c6, c7] :: F) := H
  refine C_seq (fun K1_ hK1_ => ?_)
  refine C_reg ?_
  refine S_list (T_val (v := (Value.int .i64 0)) (x_assign rfl) ?_)
  refine wpList_nil ?_
  refine (X_then (hK1_ _ _ ?_))
  clear hK1_
  refine C_block ?_
  refine C_loopN 9 ?_
  refine C_rounds (fun K2_ hK2_ => ?_)
  refine C_seq (fun K3_ hK3_ => ?_)
  refine C_seq (fun K4_ hK4_ => ?_)
  refine C_reg ?_
  refine S_list (T_val (v := (Value.int .i64 0)) (x_move rfl) ?_)
  refine S_list (T_val (v := (Value.bool true)) (x_bin rfl rfl rfl) ?_)
  refine wpList_nil ?_
  refine (X_then (hK4_ _ _ ?_))
  clear hK4_
  refine C_condT rfl ?_
  refine C_skip (X_then (hK3_ _ _ ?_))
  clear hK3_
  refine C_seq (fun K5_ hK5_ => ?_)
  refine C_block ?_
  refine C_reg ?_
  refine S_list (T_val (v := (Value.slice (some ⟨ub, 0, none⟩) 8 8)) (x_move rfl) ?_)
  refine S_list (T_val (v := (Value.int .i64 0)) (x_move rfl) ?_)
  refine S_list (T_val (v := (Value.int .u64 x)) (x_move rfl) ?_)
  refine S_list (T_val (v := (Value.int .i64 0)) (x_move rfl) ?_)
  refine S_list (T_val (v := (Value.int .u64 0)) (x_convI rfl Try.underlying3 Try.underlying170 (by decide)) ?_)
  refine S_list (T_val (v := (Value.int .u64 0)) (x_bin rfl rfl (by rfl)) ?_)
  refine S_list (T_val (v := (Value.int .u64 x)) (x_shr rfl rfl (by omega) (by simp [Int.fdiv_one])) ?_)
  refine S_list (T_val (v := (Value.int .u8 (IntKind.u8.wrap x))) (x_convI rfl Try.underlying171 Try.underlying5 rfl) ?_)
  refine S_list (T_val (v := (Value.pointer (some ⟨ub, 0, none⟩))) (x_indexAddr rfl rfl Try.underlying43 z5 (by omega) (by omega) (by omega : _ = 0) (by first | rfl | simp | (congr 1; omega))) ?_)
  refine S_list0 (T_store1 (v := (Value.int .u8 (IntKind.u8.wrap x))) rfl rfl z5 rfl H 1 rfl (Nat.le_of_ble_eq_true (by rfl)) ?_)
  intro w6_ S8_ H7_
  replace H7_ : Holds w6_ (ro R :: cl ub 5 [(Value.int .u8 (IntKind.u8.wrap x)), c1, c2, c3, c4, c5, c6, c7] :: F) := H7_
  have S9_ := Same.trans (Same.refl w) S8_
  refine wpList_nil ?_
  refine (X_blkN (X_then (hK5_ _ _ ?_)))
  clear hK5_
  refine C_reg ?_
  refine S_list (T_val (v := (Value.int .i64 0)) (x_move rfl) ?_)
  refine S_list (T_val (v := (Value.int .i64 1)) (x_bin rfl rfl (by rfl)) ?_)
  refine S_list (T_val (v := (Value.int .i64 1)) (x_assign rfl) ?_)
  refine wpList_nil ?_
  refine (X_then ?_)
  refine hK2_ _ _ ?_
  clear hK2_
  refine C_rounds (fun K10_ hK10_ => ?_)
  refine C_seq (fun K11_ hK11_ => ?_)
  refine C_seq (fun K12_ hK12_ => ?_)
  refine C_reg ?_
  refine S_list (T_val (v := (Value.int .i64 1)) (x_move rfl) ?_)
  refine S_list (T_val (v := (Value.bool true)) (x_bin rfl rfl rfl) ?_)
  refine wpList_nil ?_
  refine (X_then (hK12_ _ _ ?_))
  clear hK12_
  refine C_condT rfl ?_
  refine C_skip (X_then (hK11_ _ _ ?_))
  clear hK11_
  refine C_seq (fun K13_ hK13_ => ?_)
  refine C_block ?_
  refine C_reg ?_
  refine S_list (T_val (v := (Value.slice (some ⟨ub, 0, none⟩) 8 8)) (x_move rfl) ?_)
  refine S_list (T_val (v := (Value.int .i64 1)) (x_move rfl) ?_)
  refine S_list (T_val (v := (Value.int .u64 x)) (x_move rfl) ?_)
  refine S_list (T_val (v := (Value.int .i64 1)) (x_move rfl) ?_)
  refine S_list (T_val (v := (Value.int .u64 1)) (x_convI rfl Try.underlying3 Try.underlying170 (by decide)) ?_)
  refine S_list (T_val (v := (Value.int .u64 8)) (x_bin rfl rfl (by rfl)) ?_)
  refine S_list (T_val (v := (Value.int .u64 (x / 256))) (x_shr rfl rfl (by omega) (shrN (by decide) (by decide))) ?_)
  refine S_list (T_val (v := (Value.int .u8 (IntKind.u8.wrap (x / 256)))) (x_convI rfl Try.underlying171 Try.underlying5 rfl) ?_)
  refine S_list (T_val (v := (Value.pointer (some ⟨ub, 1, none⟩))) (x_indexAddr rfl rfl Try.underlying43 z5 (by omega) (by omega) (by omega : _ = 1) (by first | rfl | simp | (congr 1; omega))) ?_)
  refine S_list0 (T_store1 (v := (Value.int .u8 (IntKind.u8.wrap (x / 256)))) rfl rfl z5 rfl H7_ 1 rfl (Nat.le_of_ble_eq_true (by rfl)) ?_)
  intro w14_ S16_ H15_
  replace H15_ : Holds w14_ (ro R :: cl ub 5 [(Value.int .u8 (IntKind.u8.wrap x)), (Value.int .u8 (IntKind.u8.wrap (x / 256))), c2, c3, c4, c5, c6, c7] :: F) := H15_
  have S17_ := Same.trans S9_ S16_
  refine wpList_nil ?_
  refine (X_blkN (X_then (hK13_ _ _ ?_)))
  clear hK13_
  refine C_reg ?_
  refine S_list (T_val (v := (Value.int .i64 1)) (x_move rfl) ?_)
  refine S_list (T_val (v := (Value.int .i64 2)) (x_bin rfl rfl (by rfl)) ?_)
  refine S_list (T_val (v := (Value.int .i64 2)) (x_assign rfl) ?_)
  refine wpList_nil ?_
  refine (X_then ?_)
  refine hK10_ _ _ ?_
  clear hK10_
  refine C_rounds (fun K18_ hK18_ => ?_)
  refine C_seq (fun K19_ hK19_ => ?_)
  refine C_seq (fun K20_ hK20_ => ?_)
  refine C_reg ?_
  refine S_list (T_val (v := (Value.int .i64 2)) (x_move rfl) ?_)
  refine S_list (T_val (v := (Value.bool true)) (x_bin rfl rfl rfl) ?_)
  refine wpList_nil ?_
  refine (X_then (hK20_ _ _ ?_))
  clear hK20_
  refine C_condT rfl ?_
  refine C_skip (X_then (hK19_ _ _ ?_))
  clear hK19_
  refine C_seq (fun K21_ hK21_ => ?_)
  refine C_block ?_
  refine C_reg ?_
  refine S_list (T_val (v := (Value.slice (some ⟨ub, 0, none⟩) 8 8)) (x_move rfl) ?_)
  refine S_list (T_val (v := (Value.int .i64 2)) (x_move rfl) ?_)
  refine S_list (T_val (v := (Value.int .u64 x)) (x_move rfl) ?_)
  refine S_list (T_val (v := (Value.int .i64 2)) (x_move rfl) ?_)
  refine S_list (T_val (v := (Value.int .u64 2)) (x_convI rfl Try.underlying3 Try.underlying170 (by decide)) ?_)
  refine S_list (T_val (v := (Value.int .u64 16)) (x_bin rfl rfl (by rfl)) ?_)
  refine S_list (T_val (v := (Value.int .u64 (x / 65536))) (x_shr rfl rfl (by omega) (shrN (by decide) (by decide))) ?_)
  refine S_list (T_val (v := (Value.int .u8 (IntKind.u8.wrap (x / 65536)))) (x_convI rfl Try.underlying171 Try.underlying5 rfl) ?_)
  refine S_list (T_val (v := (Value.pointer (some ⟨ub, 2, none⟩))) (x_indexAddr rfl rfl Try.underlying43 z5 (by omega) (by omega) (by omega : _ = 2) (by first | rfl | simp | (congr 1; omega))) ?_)
  refine S_list0 (T_store1 (v := (Value.int .u8 (IntKind.u8.wrap (x / 65536)))) rfl rfl z5 rfl H15_ 1 rfl (Nat.le_of_ble_eq_true (by rfl)) ?_)
  intro w22_ S24_ H23_
  replace H23_ : Holds w22_ (ro R :: cl ub 5 [(Value.int .u8 (IntKind.u8.wrap x)), (Value.int .u8 (IntKind.u8.wrap (x / 256))), (Value.int .u8 (IntKind.u8.wrap (x / 65536))), c3, c4, c5, c6, c7] :: F) := H23_
  have S25_ := Same.trans S17_ S24_
  refine wpList_nil ?_
  refine (X_blkN (X_then (hK21_ _ _ ?_)))
  clear hK21_
  refine C_reg ?_
  refine S_list (T_val (v := (Value.int .i64 2)) (x_move rfl) ?_)
  refine S_list (T_val (v := (Value.int .i64 3)) (x_bin rfl rfl (by rfl)) ?_)
  refine S_list (T_val (v := (Value.int .i64 3)) (x_assign rfl) ?_)
  refine wpList_nil ?_
  refine (X_then ?_)
  refine hK18_ _ _ ?_
  clear hK18_
  refine C_rounds (fun K26_ hK26_ => ?_)
  refine C_seq (fun K27_ hK27_ => ?_)
  refine C_seq (fun K28_ hK28_ => ?_)
  refine C_reg ?_
  refine S_list (T_val (v := (Value.int .i64 3)) (x_move rfl) ?_)
  refine S_list (T_val (v := (Value.bool true)) (x_bin rfl rfl rfl) ?_)
  refine wpList_nil ?_
  refine (X_then (hK28_ _ _ ?_))
  clear hK28_
  refine C_condT rfl ?_
  refine C_skip (X_then (hK27_ _ _ ?_))
  clear hK27_
  refine C_seq (fun K29_ hK29_ => ?_)
  refine C_block ?_
  refine C_reg ?_
  refine S_list (T_val (v := (Value.slice (some ⟨ub, 0, none⟩) 8 8)) (x_move rfl) ?_)
  refine S_list (T_val (v := (Value.int .i64 3)) (x_move rfl) ?_)
  refine S_list (T_val (v := (Value.int .u64 x)) (x_move rfl) ?_)
  refine S_list (T_val (v := (Value.int .i64 3)) (x_move rfl) ?_)
  refine S_list (T_val (v := (Value.int .u64 3)) (x_convI rfl Try.underlying3 Try.underlying170 (by decide)) ?_)
  refine S_list (T_val (v := (Value.int .u64 24)) (x_bin rfl rfl (by rfl)) ?_)
  refine S_list (T_val (v := (Value.int .u64 (x / 16777216))) (x_shr rfl rfl (by omega) (shrN (by decide) (by decide))) ?_)
  refine S_list (T_val (v := (Value.int .u8 (IntKind.u8.wrap (x / 16777216)))) (x_convI rfl Try.underlying171 Try.underlying5 rfl) ?_)
  refine S_list (T_val (v := (Value.pointer (some ⟨ub, 3, none⟩))) (x_indexAddr rfl rfl Try.underlying43 z5 (by omega) (by omega) (by omega : _ = 3) (by first | rfl | simp | (congr 1; omega))) ?_)
  refine S_list0 (T_store1 (v := (Value.int .u8 (IntKind.u8.wrap (x / 16777216)))) rfl rfl z5 rfl H23_ 1 rfl (Nat.le_of_ble_eq_true (by rfl)) ?_)
  intro w30_ S32_ H31_
  replace H31_ : Holds w30_ (ro R :: cl ub 5 [(Value.int .u8 (IntKind.u8.wrap x)), (Value.int .u8 (IntKind.u8.wrap (x / 256))), (Value.int .u8 (IntKind.u8.wrap (x / 65536))), (Value.int .u8 (IntKind.u8.wrap (x / 16777216))), c4, c5, c6, c7] :: F) := H31_
  have S33_ := Same.trans S25_ S32_
  refine wpList_nil ?_
  refine (X_blkN (X_then (hK29_ _ _ ?_)))
  clear hK29_
  refine C_reg ?_
  refine S_list (T_val (v := (Value.int .i64 3)) (x_move rfl) ?_)
  refine S_list (T_val (v := (Value.int .i64 4)) (x_bin rfl rfl (by rfl)) ?_)
  refine S_list (T_val (v := (Value.int .i64 4)) (x_assign rfl) ?_)
  refine wpList_nil ?_
  refine (X_then ?_)
  refine hK26_ _ _ ?_
  clear hK26_
  refine C_rounds (fun K34_ hK34_ => ?_)
  refine C_seq (fun K35_ hK35_ => ?_)
  refine C_seq (fun K36_ hK36_ => ?_)
  refine C_reg ?_
  refine S_list (T_val (v := (Value.int .i64 4)) (x_move rfl) ?_)
  refine S_list (T_val (v := (Value.bool true)) (x_bin rfl rfl rfl) ?_)
  refine wpList_nil ?_
  refine (X_then (hK36_ _ _ ?_))
  clear hK36_
  refine C_condT rfl ?_
  refine C_skip (X_then (hK35_ _ _ ?_))
  clear hK35_
  refine C_seq (fun K37_ hK37_ => ?_)
  refine C_block ?_
  refine C_reg ?_
  refine S_list (T_val (v := (Value.slice (some ⟨ub, 0, none⟩) 8 8)) (x_move rfl) ?_)
  refine S_list (T_val (v := (Value.int .i64 4)) (x_move rfl) ?_)
  refine S_list (T_val (v := (Value.int .u64 x)) (x_move rfl) ?_)
  refine S_list (T_val (v := (Value.int .i64 4)) (x_move rfl) ?_)
  refine S_list (T_val (v := (Value.int .u64 4)) (x_convI rfl Try.underlying3 Try.underlying170 (by decide)) ?_)
  refine S_list (T_val (v := (Value.int .u64 32)) (x_bin rfl rfl (by rfl)) ?_)
  refine S_list (T_val (v := (Value.int .u64 (x / 4294967296))) (x_shr rfl rfl (by omega) (shrN (by decide) (by decide))) ?_)
  refine S_list (T_val (v := (Value.int .u8 (IntKind.u8.wrap (x / 4294967296)))) (x_convI rfl Try.underlying171 Try.underlying5 rfl) ?_)
  refine S_list (T_val (v := (Value.pointer (some ⟨ub, 4, none⟩))) (x_indexAddr rfl rfl Try.underlying43 z5 (by omega) (by omega) (by omega : _ = 4) (by first | rfl | simp | (congr 1; omega))) ?_)
  refine S_list0 (T_store1 (v := (Value.int .u8 (IntKind.u8.wrap (x / 4294967296)))) rfl rfl z5 rfl H31_ 1 rfl (Nat.le_of_ble_eq_true (by rfl)) ?_)
  intro w38_ S40_ H39_
  replace H39_ : Holds w38_ (ro R :: cl ub 5 [(Value.int .u8 (IntKind.u8.wrap x)), (Value.int .u8 (IntKind.u8.wrap (x / 256))), (Value.int .u8 (IntKind.u8.wrap (x / 65536))), (Value.int .u8 (IntKind.u8.wrap (x / 16777216))), (Value.int .u8 (IntKind.u8.wrap (x / 4294967296))), c5, c6, c7] :: F) := H39_
  have S41_ := Same.trans S33_ S40_
  refine wpList_nil ?_
  refine (X_blkN (X_then (hK37_ _ _ ?_)))
  clear hK37_
  refine C_reg ?_
  refine S_list (T_val (v := (Value.int .i64 4)) (x_move rfl) ?_)
  refine S_list (T_val (v := (Value.int .i64 5)) (x_bin rfl rfl (by rfl)) ?_)
  refine S_list (T_val (v := (Value.int .i64 5)) (x_assign rfl) ?_)
  refine wpList_nil ?_
  refine (X_then ?_)
  refine hK34_ _ _ ?_
  clear hK34_
  refine C_rounds (fun K42_ hK42_ => ?_)
  refine C_seq (fun K43_ hK43_ => ?_)
  refine C_seq (fun K44_ hK44_ => ?_)
  refine C_reg ?_
  refine S_list (T_val (v := (Value.int .i64 5)) (x_move rfl) ?_)
  refine S_list (T_val (v := (Value.bool true)) (x_bin rfl rfl rfl) ?_)
  refine wpList_nil ?_
  refine (X_then (hK44_ _ _ ?_))
  clear hK44_
  refine C_condT rfl ?_
  refine C_skip (X_then (hK43_ _ _ ?_))
  clear hK43_
  refine C_seq (fun K45_ hK45_ => ?_)
  refine C_block ?_
  refine C_reg ?_
  refine S_list (T_val (v := (Value.slice (some ⟨ub, 0, none⟩) 8 8)) (x_move rfl) ?_)
  refine S_list (T_val (v := (Value.int .i64 5)) (x_move rfl) ?_)
  refine S_list (T_val (v := (Value.int .u64 x)) (x_move rfl) ?_)
  refine S_list (T_val (v := (Value.int .i64 5)) (x_move rfl) ?_)
  refine S_list (T_val (v := (Value.int .u64 5)) (x_convI rfl Try.underlying3 Try.underlying170 (by decide)) ?_)
  refine S_list (T_val (v := (Value.int .u64 40)) (x_bin rfl rfl (by rfl)) ?_)
  refine S_list (T_val (v := (Value.int .u64 (x / 1099511627776))) (x_shr rfl rfl (by omega) (shrN (by decide) (by decide))) ?_)
  refine S_list (T_val (v := (Value.int .u8 (IntKind.u8.wrap (x / 1099511627776)))) (x_convI rfl Try.underlying171 Try.underlying5 rfl) ?_)
  refine S_list (T_val (v := (Value.pointer (some ⟨ub, 5, none⟩))) (x_indexAddr rfl rfl Try.underlying43 z5 (by omega) (by omega) (by omega : _ = 5) (by first | rfl | simp | (congr 1; omega))) ?_)
  refine S_list0 (T_store1 (v := (Value.int .u8 (IntKind.u8.wrap (x / 1099511627776)))) rfl rfl z5 rfl H39_ 1 rfl (Nat.le_of_ble_eq_true (by rfl)) ?_)
  intro w46_ S48_ H47_
  replace H47_ : Holds w46_ (ro R :: cl ub 5 [(Value.int .u8 (IntKind.u8.wrap x)), (Value.int .u8 (IntKind.u8.wrap (x / 256))), (Value.int .u8 (IntKind.u8.wrap (x / 65536))), (Value.int .u8 (IntKind.u8.wrap (x / 16777216))), (Value.int .u8 (IntKind.u8.wrap (x / 4294967296))), (Value.int .u8 (IntKind.u8.wrap (x / 1099511627776))), c6, c7] :: F) := H47_
  have S49_ := Same.trans S41_ S48_
  refine wpList_nil ?_
  refine (X_blkN (X_then (hK45_ _ _ ?_)))
  clear hK45_
  refine C_reg ?_
  refine S_list (T_val (v := (Value.int .i64 5)) (x_move rfl) ?_)
  refine S_list (T_val (v := (Value.int .i64 6)) (x_bin rfl rfl (by rfl)) ?_)
  refine S_list (T_val (v := (Value.int .i64 6)) (x_assign rfl) ?_)
  refine wpList_nil ?_
  refine (X_then ?_)
  refine hK42_ _ _ ?_
  clear hK42_
  refine C_rounds (fun K50_ hK50_ => ?_)
  refine C_seq (fun K51_ hK51_ => ?_)
  refine C_seq (fun K52_ hK52_ => ?_)
  refine C_reg ?_
  refine S_list (T_val (v := (Value.int .i64 6)) (x_move rfl) ?_)
  refine S_list (T_val (v := (Value.bool true)) (x_bin rfl rfl rfl) ?_)
  refine wpList_nil ?_
  refine (X_then (hK52_ _ _ ?_))
  clear hK52_
  refine C_condT rfl ?_
  refine C_skip (X_then (hK51_ _ _ ?_))
  clear hK51_
  refine C_seq (fun K53_ hK53_ => ?_)
  refine C_block ?_
  refine C_reg ?_
  refine S_list (T_val (v := (Value.slice (some ⟨ub, 0, none⟩) 8 8)) (x_move rfl) ?_)
  refine S_list (T_val (v := (Value.int .i64 6)) (x_move rfl) ?_)
  refine S_list (T_val (v := (Value.int .u64 x)) (x_move rfl) ?_)
  refine S_list (T_val (v := (Value.int .i64 6)) (x_move rfl) ?_)
  refine S_list (T_val (v := (Value.int .u64 6)) (x_convI rfl Try.underlying3 Try.underlying170 (by decide)) ?_)
  refine S_list (T_val (v := (Value.int .u64 48)) (x_bin rfl rfl (by rfl)) ?_)
  refine S_list (T_val (v := (Value.int .u64 (x / 281474976710656))) (x_shr rfl rfl (by omega) (shrN (by decide) (by decide))) ?_)
  refine S_list (T_val (v := (Value.int .u8 (IntKind.u8.wrap (x / 281474976710656)))) (x_convI rfl Try.underlying171 Try.underlying5 rfl) ?_)
  refine S_list (T_val (v := (Value.pointer (some ⟨ub, 6, none⟩))) (x_indexAddr rfl rfl Try.underlying43 z5 (by omega) (by omega) (by omega : _ = 6) (by first | rfl | simp | (congr 1; omega))) ?_)
  refine S_list0 (T_store1 (v := (Value.int .u8 (IntKind.u8.wrap (x / 281474976710656)))) rfl rfl z5 rfl H47_ 1 rfl (Nat.le_of_ble_eq_true (by rfl)) ?_)
  intro w54_ S56_ H55_
  replace H55_ : Holds w54_ (ro R :: cl ub 5 [(Value.int .u8 (IntKind.u8.wrap x)), (Value.int .u8 (IntKind.u8.wrap (x / 256))), (Value.int .u8 (IntKind.u8.wrap (x / 65536))), (Value.int .u8 (IntKind.u8.wrap (x / 16777216))), (Value.int .u8 (IntKind.u8.wrap (x / 4294967296))), (Value.int .u8 (IntKind.u8.wrap (x / 1099511627776))), (Value.int .u8 (IntKind.u8.wrap (x / 281474976710656))), c7] :: F) := H55_
  have S57_ := Same.trans S49_ S56_
  refine wpList_nil ?_
  refine (X_blkN (X_then (hK53_ _ _ ?_)))
  clear hK53_
  refine C_reg ?_
  refine S_list (T_val (v := (Value.int .i64 6)) (x_move rfl) ?_)
  refine S_list (T_val (v := (Value.int .i64 7)) (x_bin rfl rfl (by rfl)) ?_)
  refine S_list (T_val (v := (Value.int .i64 7)) (x_assign rfl) ?_)
  refine wpList_nil ?_
  refine (X_then ?_)
  refine hK50_ _ _ ?_
  clear hK50_
  refine C_rounds (fun K58_ hK58_ => ?_)
  refine C_seq (fun K59_ hK59_ => ?_)
  refine C_seq (fun K60_ hK60_ => ?_)
  refine C_reg ?_
  refine S_list (T_val (v := (Value.int .i64 7)) (x_move rfl) ?_)
  refine S_list (T_val (v := (Value.bool true)) (x_bin rfl rfl rfl) ?_)
  refine wpList_nil ?_
  refine (X_then (hK60_ _ _ ?_))
  clear hK60_
  refine C_condT rfl ?_
  refine C_skip (X_then (hK59_ _ _ ?_))
  clear hK59_
  refine C_seq (fun K61_ hK61_ => ?_)
  refine C_block ?_
  refine C_reg ?_
  refine S_list (T_val (v := (Value.slice (some ⟨ub, 0, none⟩) 8 8)) (x_move rfl) ?_)
  refine S_list (T_val (v := (Value.int .i64 7)) (x_move rfl) ?_)
  refine S_list (T_val (v := (Value.int .u64 x)) (x_move rfl) ?_)
  refine S_list (T_val (v := (Value.int .i64 7)) (x_move rfl) ?_)
  refine S_list (T_val (v := (Value.int .u64 7)) (x_convI rfl Try.underlying3 Try.underlying170 (by decide)) ?_)
  refine S_list (T_val (v := (Value.int .u64 56)) (x_bin rfl rfl (by rfl)) ?_)
  refine S_list (T_val (v := (Value.int .u64 (x / 72057594037927936))) (x_shr rfl rfl (by omega) (shrN (by decide) (by decide))) ?_)
  refine S_list (T_val (v := (Value.int .u8 (IntKind.u8.wrap (x / 72057594037927936)))) (x_convI rfl Try.underlying171 Try.underlying5 rfl) ?_)
  refine S_list (T_val (v := (Value.pointer (some ⟨ub, 7, none⟩))) (x_indexAddr rfl rfl Try.underlying43 z5 (by omega) (by omega) (by omega : _ = 7) (by first | rfl | simp | (congr 1; omega))) ?_)
  refine S_list0 (T_store1 (v := (Value.int .u8 (IntKind.u8.wrap (x / 72057594037927936)))) rfl rfl z5 rfl H55_ 1 rfl (Nat.le_of_ble_eq_true (by rfl)) ?_)
  intro w62_ S64_ H63_
  replace H63_ : Holds w62_ (ro R :: cl ub 5 [(Value.int .u8 (IntKind.u8.wrap x)), (Value.int .u8 (IntKind.u8.wrap (x / 256))), (Value.int .u8 (IntKind.u8.wrap (x / 65536))), (Value.int .u8 (IntKind.u8.wrap (x / 16777216))), (Value.int .u8 (IntKind.u8.wrap (x / 4294967296))), (Value.int .u8 (IntKind.u8.wrap (x / 1099511627776))), (Value.int .u8 (IntKind.u8.wrap (x / 281474976710656))), (Value.int .u8 (IntKind.u8.wrap (x / 72057594037927936)))] :: F) := H63_
  have S65_ := Same.trans S57_ S64_
  refine wpList_nil ?_
  refine (X_blkN (X_then (hK61_ _ _ ?_)))
  clear hK61_
  refine C_reg ?_
  refine S_list (T_val (v := (Value.int .i64 7)) (x_move rfl) ?_)
  refine S_list (T_val (v := (Value.int .i64 8)) (x_bin rfl rfl (by rfl)) ?_)
  refine S_list (T_val (v := (Value.int .i64 8)) (x_assign rfl) ?_)
  refine wpList_nil ?_
  refine (X_then ?_)
  refine hK58_ _ _ ?_
  clear hK58_
  refine C_rounds (fun K66_ hK66_ => ?_)
  refine C_seq (fun K67_ hK67_ => ?_)
  refine C_seq (fun K68_ hK68_ => ?_)
  refine C_reg ?_
  refine S_list (T_val (v := (Value.int .i64 8)) (x_move rfl) ?_)
  refine S_list (T_val (v := (Value.bool false)) (x_bin rfl rfl rfl) ?_)
  refine wpList_nil ?_
  refine (X_then (hK68_ _ _ ?_))
  clear hK68_
  refine C_condF rfl ?_
  refine C_exit (X_thenX (X_thenX (X_blkHit ?_)))
  refine R_0 rfl ?_
  have H69_ : Holds w62_ (ro R :: cl ub 5 [(Value.int .u8 (IntKind.u8.wrap (x / 1))), (Value.int .u8 (IntKind.u8.wrap (x / 256))), (Value.int .u8 (IntKind.u8.wrap (x / 65536))), (Value.int .u8 (IntKind.u8.wrap (x / 16777216))), (Value.int .u8 (IntKind.u8.wrap (x / 4294967296))), (Value.int .u8 (IntKind.u8.wrap (x / 1099511627776))), (Value.int .u8 (IntKind.u8.wrap (x / 281474976710656))), (Value.int .u8 (IntKind.u8.wrap (x / 72057594037927936)))] :: F) := cast1 (P := fun (c__ : List Value) => Holds w62_ (ro R :: cl ub 5 c__ :: F)) ((lcons (congrArg (Value.int .u8) ((by simp) : IntKind.u8.wrap x = IntKind.u8.wrap (x / 1))) rfl) : [(Value.int .u8 (IntKind.u8.wrap x)), (Value.int .u8 (IntKind.u8.wrap (x / 256))), (Value.int .u8 (IntKind.u8.wrap (x / 65536))), (Value.int .u8 (IntKind.u8.wrap (x / 16777216))), (Value.int .u8 (IntKind.u8.wrap (x / 4294967296))), (Value.int .u8 (IntKind.u8.wrap (x / 1099511627776))), (Value.int .u8 (IntKind.u8.wrap (x / 281474976710656))), (Value.int .u8 (IntKind.u8.wrap (x / 72057594037927936)))] = [(Value.int .u8 (IntKind.u8.wrap (x / 1))), (Value.int .u8 (IntKind.u8.wrap (x / 256))), (Value.int .u8 (IntKind.u8.wrap (x / 65536))), (Value.int .u8 (IntKind.u8.wrap (x / 16777216))), (Value.int .u8 (IntKind.u8.wrap (x / 4294967296))), (Value.int .u8 (IntKind.u8.wrap (x / 1099511627776))), (Value.int .u8 (IntKind.u8.wrap (x / 281474976710656))), (Value.int .u8 (IntKind.u8.wrap (x / 72057594037927936)))]) H63_
  exact ⟨_, [cl ub 5 [(Value.int .u8 (IntKind.u8.wrap (x / 1))), (Value.int .u8 (IntKind.u8.wrap (x / 256))), (Value.int .u8 (IntKind.u8.wrap (x / 65536))), (Value.int .u8 (IntKind.u8.wrap (x / 16777216))), (Value.int .u8 (IntKind.u8.wrap (x / 4294967296))), (Value.int .u8 (IntKind.u8.wrap (x / 1099511627776))), (Value.int .u8 (IntKind.u8.wrap (x / 281474976710656))), (Value.int .u8 (IntKind.u8.wrap (x / 72057594037927936)))]], rfl, ⟨rfl, rfl⟩, S65_, H69_⟩
end Go.Proofs.Ytgeggiebefonhaa
