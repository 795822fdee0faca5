/- What the bytes of a key-value come to. -/
import Derived.Test.YtgeggiebefonhaaHaB0
set_option linter.unusedVariables false
set_option linter.unusedSimpArgs false
namespace Go.Proofs.Ytgeggiebefonhaa
open Go Go.RowKit Gw

def pint (f : Nat) (n : Int) : List Int := if n = 0 then [] else vint (f * 8) ++ vi n
def pbyt (f : Nat) (u : List Int) : List Int := if u = [] then [] else vint (f * 8 + 2) ++ vi u.length ++ u
def kvb (k v : List Int) (c m n l : Int) : List Int := pbyt 1 k ++ pint 2 c ++ pint 3 m ++ pint 4 n ++ pbyt 5 v ++ pint 6 l
theorem pint_len (f : Nat) (n : Int) (h : f * 8 < 18446744073709551616) : (pint f n).length ≤ 20 := by
  unfold pint
  split
  · simp
  · have h1 := vint_len10 h
    have h2 := vi_len n
    rw [List.length_append]; omega
theorem pbyt_pos {f : Nat} {u : List Int} (h : (0 : Int) < (u.length : Int)) : pbyt f u = vint (f * 8 + 2) ++ vi u.length ++ u := by
  unfold pbyt; rw [if_neg (fun e => by rw [e] at h; simp at h)]
theorem pbyt_len (f : Nat) (u : List Int) (h : f * 8 + 2 < 18446744073709551616) : (pbyt f u).length ≤ 20 + u.length := by
  unfold pbyt
  split
  · simp
  · have h1 := vint_len10 h
    have h2 := vi_len u.length
    rw [List.length_append, List.length_append]; omega

set_option maxHeartbeats 400000 in
theorem hInt2 (R : HP) (v : Value) (ns : List Int) (n : Int) (q0 : ns.length ≤ 1000000) :
    Tri Try.prog 165 #[v, (Value.int .i64 2), (Value.int .i64 n)] R [sl 5 1 v (List.length ns) (bytesV ns)] (fun v__ post__ => ∃ (v' : Value), v__ = v' ∧ post__ = [sl 5 1 v' (List.length (ns ++ pint 2 n)) (bytesV (ns ++ pint 2 n))]) := by
  have hun := u64_range n
  have hv8 := vint_len10 (n := 16) (by omega)
  refine Tri.into (n := 19) (al := [v, (Value.int .i64 2), (Value.int .i64 n)]) Try.func165 rfl Try.ntmps165 rfl rfl fun w F H => ?_
  replace H : Holds w (ro R :: sl 5 1 v (List.length ns) (bytesV ns) :: F) := H
  refine C_seq (fun K1_ hK1_ => ?_)
  refine C_reg ?_
  refine S_list (T_val (v := (Value.slice none 0 0)) (x_assign rfl) ?_)
  refine wpList_nil ?_
  refine (X_then (hK1_ _ _ ?_))
  clear hK1_
  refine C_seq (fun K2_ hK2_ => ?_)
  refine C_seq (fun K3_ hK3_ => ?_)
  refine C_reg ?_
  refine S_list (T_val (v := (Value.int .i64 n)) (x_move rfl) ?_)
  refine S_list (T_val (v := (Value.bool (decide (n = 0)))) (x_bin rfl rfl rfl) ?_)
  refine wpList_nil ?_
  refine (X_then (hK3_ _ _ ?_))
  clear hK3_
  refine C_cond (b := decide (n = 0)) rfl (fun c4_t => ?_) (fun c4_f => ?_)
  · have c4_tp : n = 0 := of_decide_eq_true c4_t
    refine C_seq (fun K5_ hK5_ => ?_)
    refine C_reg ?_
    refine S_list (T_val (v := v) (x_move rfl) ?_)
    refine S_list (T_val (v := v) (x_assign rfl) ?_)
    refine wpList_nil ?_
    refine (X_then (hK5_ _ _ ?_))
    clear hK5_
    refine C_ret (X_thenR ?_)
    refine R_any (v := v) (run_results1 rfl rfl) ?_
    have H6_ : Holds w (ro R :: sl 5 1 v (List.length (ns ++ pint 2 n)) (bytesV (ns ++ pint 2 n)) :: F) := cast2 (P := fun (c__ : List Value) (k__ : Nat) => Holds w (ro R :: sl 5 1 v k__ c__ :: F)) ((by simp [pint, c4_tp]) : bytesV ns = bytesV (ns ++ pint 2 n)) ((by simp [pint, c4_tp]) : (List.length ns) = (List.length (ns ++ pint 2 n))) H
    exact ⟨_, [sl 5 1 v (List.length (ns ++ pint 2 n)) (bytesV (ns ++ pint 2 n))], rfl, ⟨v, rfl, rfl⟩, (Same.refl w), H6_⟩
  · have c4_fp : ¬ (n = 0) := of_decide_eq_false c4_f
    refine C_skip (X_then (hK2_ _ _ ?_))
    clear hK2_
    refine C_seq (fun K7_ hK7_ => ?_)
    refine C_reg ?_
    refine S_list (T_val (v := v) (x_move rfl) ?_)
    refine S_list (T_val (v := (Value.int .i64 2)) (x_move rfl) ?_)
    refine S_list (T_val (v := (Value.int .u64 2)) (x_convI rfl Try.underlying3 Try.underlying171 (by decide)) ?_)
    refine S_list (T_val (v := (Value.int .u64 16)) (x_shl rfl rfl (by decide) (by decide)) ?_)
    refine S_list (T_call (al := [v, (Value.int .u64 (16 : Int))]) (pre := [sl 5 1 v (List.length ns) (bytesV ns)]) (F := F) rfl (lcons rfl (lcons (congrArg (Value.int .u64) ((by first | rfl | omega | (simp; done) | (simp; omega)) : 16 = (16 : Int))) rfl)) cb155 (wVint R v ns 16 (by first | assumption | omega) (by first | assumption | omega)) H ?_)
    rintro v8_ p12_ w9_ ⟨_, rfl, rfl⟩ S11_ H10_
    replace H10_ : Holds w9_ (ro R :: sl 5 1 v8_ (List.length (ns ++ vint 16)) (bytesV (ns ++ vint 16)) :: F) := H10_
    have S13_ := Same.trans (Same.refl w) S11_
    refine S_list (T_val (v := v8_) (x_assign rfl) ?_)
    refine wpList_nil ?_
    refine (X_then (hK7_ _ _ ?_))
    clear hK7_
    refine C_seq (fun K14_ hK14_ => ?_)
    refine C_reg ?_
    refine S_list (T_val (v := v8_) (x_move rfl) ?_)
    refine S_list (T_val (v := (Value.int .i64 n)) (x_move rfl) ?_)
    refine S_list (T_val (v := (Value.int .u64 (IntKind.u64.wrap n))) (x_convI rfl Try.underlying2 Try.underlying171 rfl) ?_)
    refine S_list (T_call (al := [v8_, (Value.int .u64 (((IntKind.u64.wrap n).toNat : Nat) : Int))]) (pre := [sl 5 1 v8_ (List.length (ns ++ vint 16)) (bytesV (ns ++ vint 16))]) (F := F) rfl (lcons rfl (lcons (congrArg (Value.int .u64) ((by first | rfl | omega | (simp; done) | (simp; omega)) : IntKind.u64.wrap n = (((IntKind.u64.wrap n).toNat : Nat) : Int))) rfl)) cb155 (wVint R v8_ (ns ++ vint 16) ((IntKind.u64.wrap n).toNat) (by first | assumption | omega) (by rw [List.length_append]; omega)) H10_ ?_)
    rintro v15_ p19_ w16_ ⟨_, rfl, rfl⟩ S18_ H17_
    replace H17_ : Holds w16_ (ro R :: sl 5 1 v15_ (List.length ((ns ++ vint 16) ++ vint ((IntKind.u64.wrap n).toNat))) (bytesV ((ns ++ vint 16) ++ vint ((IntKind.u64.wrap n).toNat))) :: F) := H17_
    have S20_ := Same.trans S13_ S18_
    refine S_list (T_val (v := v15_) (x_assign rfl) ?_)
    refine wpList_nil ?_
    refine (X_then (hK14_ _ _ ?_))
    clear hK14_
    refine C_ret ?_
    refine R_any (v := v15_) (run_results1 rfl rfl) ?_
    have H21_ : Holds w16_ (ro R :: sl 5 1 v15_ (List.length (ns ++ pint 2 n)) (bytesV (ns ++ pint 2 n)) :: F) := cast2 (P := fun (c__ : List Value) (k__ : Nat) => Holds w16_ (ro R :: sl 5 1 v15_ k__ c__ :: F)) ((by simp [pint, c4_fp, vi]) : bytesV ((ns ++ vint 16) ++ vint ((IntKind.u64.wrap n).toNat)) = bytesV (ns ++ pint 2 n)) ((by simp [pint, c4_fp, vi]) : (List.length ((ns ++ vint 16) ++ vint ((IntKind.u64.wrap n).toNat))) = (List.length (ns ++ pint 2 n))) H17_
    exact ⟨_, [sl 5 1 v15_ (List.length (ns ++ pint 2 n)) (bytesV (ns ++ pint 2 n))], rfl, ⟨v15_, rfl, rfl⟩, S20_, H21_⟩

set_option maxHeartbeats 400000 in
theorem hInt3 (R : HP) (v : Value) (ns : List Int) (n : Int) (q0 : ns.length ≤ 1000000) :
    Tri Try.prog 165 #[v, (Value.int .i64 3), (Value.int .i64 n)] R [sl 5 1 v (List.length ns) (bytesV ns)] (fun v__ post__ => ∃ (v' : Value), v__ = v' ∧ post__ = [sl 5 1 v' (List.length (ns ++ pint 3 n)) (bytesV (ns ++ pint 3 n))]) := by
  have hun := u64_range n
  have hv8 := vint_len10 (n := 24) (by omega)
  refine Tri.into (n := 19) (al := [v, (Value.int .i64 3), (Value.int .i64 n)]) Try.func165 rfl Try.ntmps165 rfl rfl fun w F H => ?_
  replace H : Holds w (ro R :: sl 5 1 v (List.length ns) (bytesV ns) :: F) := H
  refine C_seq (fun K1_ hK1_ => ?_)
  refine C_reg ?_
  refine S_list (T_val (v := (Value.slice none 0 0)) (x_assign rfl) ?_)
  refine wpList_nil ?_
  refine (X_then (hK1_ _ _ ?_))
  clear hK1_
  refine C_seq (fun K2_ hK2_ => ?_)
  refine C_seq (fun K3_ hK3_ => ?_)
  refine C_reg ?_
  refine S_list (T_val (v := (Value.int .i64 n)) (x_move rfl) ?_)
  refine S_list (T_val (v := (Value.bool (decide (n = 0)))) (x_bin rfl rfl rfl) ?_)
  refine wpList_nil ?_
  refine (X_then (hK3_ _ _ ?_))
  clear hK3_
  refine C_cond (b := decide (n = 0)) rfl (fun c4_t => ?_) (fun c4_f => ?_)
  · have c4_tp : n = 0 := of_decide_eq_true c4_t
    refine C_seq (fun K5_ hK5_ => ?_)
    refine C_reg ?_
    refine S_list (T_val (v := v) (x_move rfl) ?_)
    refine S_list (T_val (v := v) (x_assign rfl) ?_)
    refine wpList_nil ?_
    refine (X_then (hK5_ _ _ ?_))
    clear hK5_
    refine C_ret (X_thenR ?_)
    refine R_any (v := v) (run_results1 rfl rfl) ?_
    have H6_ : Holds w (ro R :: sl 5 1 v (List.length (ns ++ pint 3 n)) (bytesV (ns ++ pint 3 n)) :: F) := cast2 (P := fun (c__ : List Value) (k__ : Nat) => Holds w (ro R :: sl 5 1 v k__ c__ :: F)) ((by simp [pint, c4_tp]) : bytesV ns = bytesV (ns ++ pint 3 n)) ((by simp [pint, c4_tp]) : (List.length ns) = (List.length (ns ++ pint 3 n))) H
    exact ⟨_, [sl 5 1 v (List.length (ns ++ pint 3 n)) (bytesV (ns ++ pint 3 n))], rfl, ⟨v, rfl, rfl⟩, (Same.refl w), H6_⟩
  · have c4_fp : ¬ (n = 0) := of_decide_eq_false c4_f
    refine C_skip (X_then (hK2_ _ _ ?_))
    clear hK2_
    refine C_seq (fun K7_ hK7_ => ?_)
    refine C_reg ?_
    refine S_list (T_val (v := v) (x_move rfl) ?_)
    refine S_list (T_val (v := (Value.int .i64 3)) (x_move rfl) ?_)
    refine S_list (T_val (v := (Value.int .u64 3)) (x_convI rfl Try.underlying3 Try.underlying171 (by decide)) ?_)
    refine S_list (T_val (v := (Value.int .u64 24)) (x_shl rfl rfl (by decide) (by decide)) ?_)
    refine S_list (T_call (al := [v, (Value.int .u64 (24 : Int))]) (pre := [sl 5 1 v (List.length ns) (bytesV ns)]) (F := F) rfl (lcons rfl (lcons (congrArg (Value.int .u64) ((by first | rfl | omega | (simp; done) | (simp; omega)) : 24 = (24 : Int))) rfl)) cb155 (wVint R v ns 24 (by first | assumption | omega) (by first | assumption | omega)) H ?_)
    rintro v8_ p12_ w9_ ⟨_, rfl, rfl⟩ S11_ H10_
    replace H10_ : Holds w9_ (ro R :: sl 5 1 v8_ (List.length (ns ++ vint 24)) (bytesV (ns ++ vint 24)) :: F) := H10_
    have S13_ := Same.trans (Same.refl w) S11_
    refine S_list (T_val (v := v8_) (x_assign rfl) ?_)
    refine wpList_nil ?_
    refine (X_then (hK7_ _ _ ?_))
    clear hK7_
    refine C_seq (fun K14_ hK14_ => ?_)
    refine C_reg ?_
    refine S_list (T_val (v := v8_) (x_move rfl) ?_)
    refine S_list (T_val (v := (Value.int .i64 n)) (x_move rfl) ?_)
    refine S_list (T_val (v := (Value.int .u64 (IntKind.u64.wrap n))) (x_convI rfl Try.underlying2 Try.underlying171 rfl) ?_)
    refine S_list (T_call (al := [v8_, (Value.int .u64 (((IntKind.u64.wrap n).toNat : Nat) : Int))]) (pre := [sl 5 1 v8_ (List.length (ns ++ vint 24)) (bytesV (ns ++ vint 24))]) (F := F) rfl (lcons rfl (lcons (congrArg (Value.int .u64) ((by first | rfl | omega | (simp; done) | (simp; omega)) : IntKind.u64.wrap n = (((IntKind.u64.wrap n).toNat : Nat) : Int))) rfl)) cb155 (wVint R v8_ (ns ++ vint 24) ((IntKind.u64.wrap n).toNat) (by first | assumption | omega) (by rw [List.length_append]; omega)) H10_ ?_)
    rintro v15_ p19_ w16_ ⟨_, rfl, rfl⟩ S18_ H17_
    replace H17_ : Holds w16_ (ro R :: sl 5 1 v15_ (List.length ((ns ++ vint 24) ++ vint ((IntKind.u64.wrap n).toNat))) (bytesV ((ns ++ vint 24) ++ vint ((IntKind.u64.wrap n).toNat))) :: F) := H17_
    have S20_ := Same.trans S13_ S18_
    refine S_list (T_val (v := v15_) (x_assign rfl) ?_)
    refine wpList_nil ?_
    refine (X_then (hK14_ _ _ ?_))
    clear hK14_
    refine C_ret ?_
    refine R_any (v := v15_) (run_results1 rfl rfl) ?_
    have H21_ : Holds w16_ (ro R :: sl 5 1 v15_ (List.length (ns ++ pint 3 n)) (bytesV (ns ++ pint 3 n)) :: F) := cast2 (P := fun (c__ : List Value) (k__ : Nat) => Holds w16_ (ro R :: sl 5 1 v15_ k__ c__ :: F)) ((by simp [pint, c4_fp, vi]) : bytesV ((ns ++ vint 24) ++ vint ((IntKind.u64.wrap n).toNat)) = bytesV (ns ++ pint 3 n)) ((by simp [pint, c4_fp, vi]) : (List.length ((ns ++ vint 24) ++ vint ((IntKind.u64.wrap n).toNat))) = (List.length (ns ++ pint 3 n))) H17_
    exact ⟨_, [sl 5 1 v15_ (List.length (ns ++ pint 3 n)) (bytesV (ns ++ pint 3 n))], rfl, ⟨v15_, rfl, rfl⟩, S20_, H21_⟩

set_option maxHeartbeats 400000 in
theorem hInt4 (R : HP) (v : Value) (ns : List Int) (n : Int) (q0 : ns.length ≤ 1000000) :
    Tri Try.prog 165 #[v, (Value.int .i64 4), (Value.int .i64 n)] R [sl 5 1 v (List.length ns) (bytesV ns)] (fun v__ post__ => ∃ (v' : Value), v__ = v' ∧ post__ = [sl 5 1 v' (List.length (ns ++ pint 4 n)) (bytesV (ns ++ pint 4 n))]) := by
  have hun := u64_range n
  have hv8 := vint_len10 (n := 32) (by omega)
  refine Tri.into (n := 19) (al := [v, (Value.int .i64 4), (Value.int .i64 n)]) Try.func165 rfl Try.ntmps165 rfl rfl fun w F H => ?_
  replace H : Holds w (ro R :: sl 5 1 v (List.length ns) (bytesV ns) :: F) := H
  refine C_seq (fun K1_ hK1_ => ?_)
  refine C_reg ?_
  refine S_list (T_val (v := (Value.slice none 0 0)) (x_assign rfl) ?_)
  refine wpList_nil ?_
  refine (X_then (hK1_ _ _ ?_))
  clear hK1_
  refine C_seq (fun K2_ hK2_ => ?_)
  refine C_seq (fun K3_ hK3_ => ?_)
  refine C_reg ?_
  refine S_list (T_val (v := (Value.int .i64 n)) (x_move rfl) ?_)
  refine S_list (T_val (v := (Value.bool (decide (n = 0)))) (x_bin rfl rfl rfl) ?_)
  refine wpList_nil ?_
  refine (X_then (hK3_ _ _ ?_))
  clear hK3_
  refine C_cond (b := decide (n = 0)) rfl (fun c4_t => ?_) (fun c4_f => ?_)
  · have c4_tp : n = 0 := of_decide_eq_true c4_t
    refine C_seq (fun K5_ hK5_ => ?_)
    refine C_reg ?_
    refine S_list (T_val (v := v) (x_move rfl) ?_)
    refine S_list (T_val (v := v) (x_assign rfl) ?_)
    refine wpList_nil ?_
    refine (X_then (hK5_ _ _ ?_))
    clear hK5_
    refine C_ret (X_thenR ?_)
    refine R_any (v := v) (run_results1 rfl rfl) ?_
    have H6_ : Holds w (ro R :: sl 5 1 v (List.length (ns ++ pint 4 n)) (bytesV (ns ++ pint 4 n)) :: F) := cast2 (P := fun (c__ : List Value) (k__ : Nat) => Holds w (ro R :: sl 5 1 v k__ c__ :: F)) ((by simp [pint, c4_tp]) : bytesV ns = bytesV (ns ++ pint 4 n)) ((by simp [pint, c4_tp]) : (List.length ns) = (List.length (ns ++ pint 4 n))) H
    exact ⟨_, [sl 5 1 v (List.length (ns ++ pint 4 n)) (bytesV (ns ++ pint 4 n))], rfl, ⟨v, rfl, rfl⟩, (Same.refl w), H6_⟩
  · have c4_fp : ¬ (n = 0) := of_decide_eq_false c4_f
    refine C_skip (X_then (hK2_ _ _ ?_))
    clear hK2_
    refine C_seq (fun K7_ hK7_ => ?_)
    refine C_reg ?_
    refine S_list (T_val (v := v) (x_move rfl) ?_)
    refine S_list (T_val (v := (Value.int .i64 4)) (x_move rfl) ?_)
    refine S_list (T_val (v := (Value.int .u64 4)) (x_convI rfl Try.underlying3 Try.underlying171 (by decide)) ?_)
    refine S_list (T_val (v := (Value.int .u64 32)) (x_shl rfl rfl (by decide) (by decide)) ?_)
    refine S_list (T_call (al := [v, (Value.int .u64 (32 : Int))]) (pre := [sl 5 1 v (List.length ns) (bytesV ns)]) (F := F) rfl (lcons rfl (lcons (congrArg (Value.int .u64) ((by first | rfl | omega | (simp; done) | (simp; omega)) : 32 = (32 : Int))) rfl)) cb155 (wVint R v ns 32 (by first | assumption | omega) (by first | assumption | omega)) H ?_)
    rintro v8_ p12_ w9_ ⟨_, rfl, rfl⟩ S11_ H10_
    replace H10_ : Holds w9_ (ro R :: sl 5 1 v8_ (List.length (ns ++ vint 32)) (bytesV (ns ++ vint 32)) :: F) := H10_
    have S13_ := Same.trans (Same.refl w) S11_
    refine S_list (T_val (v := v8_) (x_assign rfl) ?_)
    refine wpList_nil ?_
    refine (X_then (hK7_ _ _ ?_))
    clear hK7_
    refine C_seq (fun K14_ hK14_ => ?_)
    refine C_reg ?_
    refine S_list (T_val (v := v8_) (x_move rfl) ?_)
    refine S_list (T_val (v := (Value.int .i64 n)) (x_move rfl) ?_)
    refine S_list (T_val (v := (Value.int .u64 (IntKind.u64.wrap n))) (x_convI rfl Try.underlying2 Try.underlying171 rfl) ?_)
    refine S_list (T_call (al := [v8_, (Value.int .u64 (((IntKind.u64.wrap n).toNat : Nat) : Int))]) (pre := [sl 5 1 v8_ (List.length (ns ++ vint 32)) (bytesV (ns ++ vint 32))]) (F := F) rfl (lcons rfl (lcons (congrArg (Value.int .u64) ((by first | rfl | omega | (simp; done) | (simp; omega)) : IntKind.u64.wrap n = (((IntKind.u64.wrap n).toNat : Nat) : Int))) rfl)) cb155 (wVint R v8_ (ns ++ vint 32) ((IntKind.u64.wrap n).toNat) (by first | assumption | omega) (by rw [List.length_append]; omega)) H10_ ?_)
    rintro v15_ p19_ w16_ ⟨_, rfl, rfl⟩ S18_ H17_
    replace H17_ : Holds w16_ (ro R :: sl 5 1 v15_ (List.length ((ns ++ vint 32) ++ vint ((IntKind.u64.wrap n).toNat))) (bytesV ((ns ++ vint 32) ++ vint ((IntKind.u64.wrap n).toNat))) :: F) := H17_
    have S20_ := Same.trans S13_ S18_
    refine S_list (T_val (v := v15_) (x_assign rfl) ?_)
    refine wpList_nil ?_
    refine (X_then (hK14_ _ _ ?_))
    clear hK14_
    refine C_ret ?_
    refine R_any (v := v15_) (run_results1 rfl rfl) ?_
    have H21_ : Holds w16_ (ro R :: sl 5 1 v15_ (List.length (ns ++ pint 4 n)) (bytesV (ns ++ pint 4 n)) :: F) := cast2 (P := fun (c__ : List Value) (k__ : Nat) => Holds w16_ (ro R :: sl 5 1 v15_ k__ c__ :: F)) ((by simp [pint, c4_fp, vi]) : bytesV ((ns ++ vint 32) ++ vint ((IntKind.u64.wrap n).toNat)) = bytesV (ns ++ pint 4 n)) ((by simp [pint, c4_fp, vi]) : (List.length ((ns ++ vint 32) ++ vint ((IntKind.u64.wrap n).toNat))) = (List.length (ns ++ pint 4 n))) H17_
    exact ⟨_, [sl 5 1 v15_ (List.length (ns ++ pint 4 n)) (bytesV (ns ++ pint 4 n))], rfl, ⟨v15_, rfl, rfl⟩, S20_, H21_⟩

set_option maxHeartbeats 400000 in
theorem hInt6 (R : HP) (v : Value) (ns : List Int) (n : Int) (q0 : ns.length ≤ 1000000) :
    Tri Try.prog 165 #[v, (Value.int .i64 6), (Value.int .i64 n)] R [sl 5 1 v (List.length ns) (bytesV ns)] (fun v__ post__ => ∃ (v' : Value), v__ = v' ∧ post__ = [sl 5 1 v' (List.length (ns ++ pint 6 n)) (bytesV (ns ++ pint 6 n))]) := by
  have hun := u64_range n
  have hv8 := vint_len10 (n := 48) (by omega)
  refine Tri.into (n := 19) (al := [v, (Value.int .i64 6), (Value.int .i64 n)]) Try.func165 rfl Try.ntmps165 rfl rfl fun w F H => ?_
  replace H : Holds w (ro R :: sl 5 1 v (List.length ns) (bytesV ns) :: F) := H
  refine C_seq (fun K1_ hK1_ => ?_)
  refine C_reg ?_
  refine S_list (T_val (v := (Value.slice none 0 0)) (x_assign rfl) ?_)
  refine wpList_nil ?_
  refine (X_then (hK1_ _ _ ?_))
  clear hK1_
  refine C_seq (fun K2_ hK2_ => ?_)
  refine C_seq (fun K3_ hK3_ => ?_)
  refine C_reg ?_
  refine S_list (T_val (v := (Value.int .i64 n)) (x_move rfl) ?_)
  refine S_list (T_val (v := (Value.bool (decide (n = 0)))) (x_bin rfl rfl rfl) ?_)
  refine wpList_nil ?_
  refine (X_then (hK3_ _ _ ?_))
  clear hK3_
  refine C_cond (b := decide (n = 0)) rfl (fun c4_t => ?_) (fun c4_f => ?_)
  · have c4_tp : n = 0 := of_decide_eq_true c4_t
    refine C_seq (fun K5_ hK5_ => ?_)
    refine C_reg ?_
    refine S_list (T_val (v := v) (x_move rfl) ?_)
    refine S_list (T_val (v := v) (x_assign rfl) ?_)
    refine wpList_nil ?_
    refine (X_then (hK5_ _ _ ?_))
    clear hK5_
    refine C_ret (X_thenR ?_)
    refine R_any (v := v) (run_results1 rfl rfl) ?_
    have H6_ : Holds w (ro R :: sl 5 1 v (List.length (ns ++ pint 6 n)) (bytesV (ns ++ pint 6 n)) :: F) := cast2 (P := fun (c__ : List Value) (k__ : Nat) => Holds w (ro R :: sl 5 1 v k__ c__ :: F)) ((by simp [pint, c4_tp]) : bytesV ns = bytesV (ns ++ pint 6 n)) ((by simp [pint, c4_tp]) : (List.length ns) = (List.length (ns ++ pint 6 n))) H
    exact ⟨_, [sl 5 1 v (List.length (ns ++ pint 6 n)) (bytesV (ns ++ pint 6 n))], rfl, ⟨v, rfl, rfl⟩, (Same.refl w), H6_⟩
  · have c4_fp : ¬ (n = 0) := of_decide_eq_false c4_f
    refine C_skip (X_then (hK2_ _ _ ?_))
    clear hK2_
    refine C_seq (fun K7_ hK7_ => ?_)
    refine C_reg ?_
    refine S_list (T_val (v := v) (x_move rfl) ?_)
    refine S_list (T_val (v := (Value.int .i64 6)) (x_move rfl) ?_)
    refine S_list (T_val (v := (Value.int .u64 6)) (x_convI rfl Try.underlying3 Try.underlying171 (by decide)) ?_)
    refine S_list (T_val (v := (Value.int .u64 48)) (x_shl rfl rfl (by decide) (by decide)) ?_)
    refine S_list (T_call (al := [v, (Value.int .u64 (48 : Int))]) (pre := [sl 5 1 v (List.length ns) (bytesV ns)]) (F := F) rfl (lcons rfl (lcons (congrArg (Value.int .u64) ((by first | rfl | omega | (simp; done) | (simp; omega)) : 48 = (48 : Int))) rfl)) cb155 (wVint R v ns 48 (by first | assumption | omega) (by first | assumption | omega)) H ?_)
    rintro v8_ p12_ w9_ ⟨_, rfl, rfl⟩ S11_ H10_
    replace H10_ : Holds w9_ (ro R :: sl 5 1 v8_ (List.length (ns ++ vint 48)) (bytesV (ns ++ vint 48)) :: F) := H10_
    have S13_ := Same.trans (Same.refl w) S11_
    refine S_list (T_val (v := v8_) (x_assign rfl) ?_)
    refine wpList_nil ?_
    refine (X_then (hK7_ _ _ ?_))
    clear hK7_
    refine C_seq (fun K14_ hK14_ => ?_)
    refine C_reg ?_
    refine S_list (T_val (v := v8_) (x_move rfl) ?_)
    refine S_list (T_val (v := (Value.int .i64 n)) (x_move rfl) ?_)
    refine S_list (T_val (v := (Value.int .u64 (IntKind.u64.wrap n))) (x_convI rfl Try.underlying2 Try.underlying171 rfl) ?_)
    refine S_list (T_call (al := [v8_, (Value.int .u64 (((IntKind.u64.wrap n).toNat : Nat) : Int))]) (pre := [sl 5 1 v8_ (List.length (ns ++ vint 48)) (bytesV (ns ++ vint 48))]) (F := F) rfl (lcons rfl (lcons (congrArg (Value.int .u64) ((by first | rfl | omega | (simp; done) | (simp; omega)) : IntKind.u64.wrap n = (((IntKind.u64.wrap n).toNat : Nat) : Int))) rfl)) cb155 (wVint R v8_ (ns ++ vint 48) ((IntKind.u64.wrap n).toNat) (by first | assumption | omega) (by rw [List.length_append]; omega)) H10_ ?_)
    rintro v15_ p19_ w16_ ⟨_, rfl, rfl⟩ S18_ H17_
    replace H17_ : Holds w16_ (ro R :: sl 5 1 v15_ (List.length ((ns ++ vint 48) ++ vint ((IntKind.u64.wrap n).toNat))) (bytesV ((ns ++ vint 48) ++ vint ((IntKind.u64.wrap n).toNat))) :: F) := H17_
    have S20_ := Same.trans S13_ S18_
    refine S_list (T_val (v := v15_) (x_assign rfl) ?_)
    refine wpList_nil ?_
    refine (X_then (hK14_ _ _ ?_))
    clear hK14_
    refine C_ret ?_
    refine R_any (v := v15_) (run_results1 rfl rfl) ?_
    have H21_ : Holds w16_ (ro R :: sl 5 1 v15_ (List.length (ns ++ pint 6 n)) (bytesV (ns ++ pint 6 n)) :: F) := cast2 (P := fun (c__ : List Value) (k__ : Nat) => Holds w16_ (ro R :: sl 5 1 v15_ k__ c__ :: F)) ((by simp [pint, c4_fp, vi]) : bytesV ((ns ++ vint 48) ++ vint ((IntKind.u64.wrap n).toNat)) = bytesV (ns ++ pint 6 n)) ((by simp [pint, c4_fp, vi]) : (List.length ((ns ++ vint 48) ++ vint ((IntKind.u64.wrap n).toNat))) = (List.length (ns ++ pint 6 n))) H17_
    exact ⟨_, [sl 5 1 v15_ (List.length (ns ++ pint 6 n)) (bytesV (ns ++ pint 6 n))], rfl, ⟨v15_, rfl, rfl⟩, S20_, H21_⟩

set_option maxHeartbeats 400000 in
theorem hByt1 (R : HP) (v p : Value) (ns ds : List Int) (hP : RS R 1 p ds.length (bytesV ds)) (q1 : ns.length ≤ 1000000) (q2 : ds.length ≤ 1000000) :
    Tri Try.prog 156 #[v, (Value.int .i64 1), p] R [sl 5 1 v (List.length ns) (bytesV ns)] (fun v__ post__ => ∃ (v' : Value), v__ = v' ∧ post__ = [sl 5 1 v' (List.length (ns ++ (vint 10 ++ vi ds.length ++ ds))) (bytesV (ns ++ (vint 10 ++ vi ds.length ++ ds)))]) := by
  have hvl := vi_len (ds.length : Int)
  have hu := u64_range (ds.length : Int)
  have hv8 := vint_len10 (n := 10) (by omega)
  refine Tri.into (n := 21) (al := [v, (Value.int .i64 1), p]) Try.func156 rfl Try.ntmps156 rfl rfl fun w F H => ?_
  replace H : Holds w (ro R :: sl 5 1 v (List.length ns) (bytesV ns) :: F) := H
  refine C_seq (fun K1_ hK1_ => ?_)
  refine C_reg ?_
  refine S_list (T_val (v := (Value.slice none 0 0)) (x_assign rfl) ?_)
  refine wpList_nil ?_
  refine (X_then (hK1_ _ _ ?_))
  clear hK1_
  refine C_seq (fun K2_ hK2_ => ?_)
  refine C_reg ?_
  refine S_list (T_val (v := v) (x_move rfl) ?_)
  refine S_list (T_val (v := (Value.int .i64 1)) (x_move rfl) ?_)
  refine S_list (T_val (v := (Value.int .u64 1)) (x_convI rfl Try.underlying3 Try.underlying171 (by decide)) ?_)
  refine S_list (T_val (v := (Value.int .u64 8)) (x_shl rfl rfl (by decide) (by decide)) ?_)
  refine S_list (T_val (v := (Value.int .u64 10)) (x_bin rfl rfl (by rfl)) ?_)
  refine S_list (T_call (al := [v, (Value.int .u64 (10 : Int))]) (pre := [sl 5 1 v (List.length ns) (bytesV ns)]) (F := F) rfl (lcons rfl (lcons (congrArg (Value.int .u64) ((by first | rfl | omega | (simp; done) | (simp; omega)) : 10 = (10 : Int))) rfl)) cb155 (wVint R v ns 10 (by first | assumption | omega) (by first | assumption | omega)) H ?_)
  rintro v3_ p7_ w4_ ⟨_, rfl, rfl⟩ S6_ H5_
  replace H5_ : Holds w4_ (ro R :: sl 5 1 v3_ (List.length (ns ++ vint 10)) (bytesV (ns ++ vint 10)) :: F) := H5_
  have S8_ := Same.trans (Same.refl w) S6_
  refine S_list (T_val (v := v3_) (x_assign rfl) ?_)
  refine wpList_nil ?_
  refine (X_then (hK2_ _ _ ?_))
  clear hK2_
  refine C_seq (fun K9_ hK9_ => ?_)
  refine C_reg ?_
  refine S_list (T_val (v := v3_) (x_move rfl) ?_)
  refine S_list (T_val (v := p) (x_move rfl) ?_)
  refine S_list (T_val (v := (Value.int .i64 (ds.length : Int))) (x_lenRS rfl hP Try.underlying43) ?_)
  refine S_list (T_val (v := (Value.int .u64 (IntKind.u64.wrap (ds.length : Int)))) (x_convI rfl Try.underlying3 Try.underlying171 rfl) ?_)
  refine S_list (T_call (al := [v3_, (Value.int .u64 (((IntKind.u64.wrap (ds.length : Int)).toNat : Nat) : Int))]) (pre := [sl 5 1 v3_ (List.length (ns ++ vint 10)) (bytesV (ns ++ vint 10))]) (F := F) rfl (lcons rfl (lcons (congrArg (Value.int .u64) ((by first | rfl | omega | (simp; done) | (simp; omega)) : IntKind.u64.wrap (ds.length : Int) = (((IntKind.u64.wrap (ds.length : Int)).toNat : Nat) : Int))) rfl)) cb155 (wVint R v3_ (ns ++ vint 10) ((IntKind.u64.wrap (ds.length : Int)).toNat) (by first | assumption | omega) (by rw [List.length_append]; omega)) H5_ ?_)
  rintro v10_ p14_ w11_ ⟨_, rfl, rfl⟩ S13_ H12_
  replace H12_ : Holds w11_ (ro R :: sl 5 1 v10_ (List.length ((ns ++ vint 10) ++ vint ((IntKind.u64.wrap (ds.length : Int)).toNat))) (bytesV ((ns ++ vint 10) ++ vint ((IntKind.u64.wrap (ds.length : Int)).toNat))) :: F) := H12_
  have S15_ := Same.trans S8_ S13_
  refine S_list (T_val (v := v10_) (x_assign rfl) ?_)
  refine wpList_nil ?_
  refine (X_then (hK9_ _ _ ?_))
  clear hK9_
  refine C_seq (fun K16_ hK16_ => ?_)
  refine C_reg ?_
  refine S_list (T_val (v := v10_) (x_move rfl) ?_)
  refine S_list (T_val (v := p) (x_move rfl) ?_)
  refine S_list (T_append rfl rfl Try.underlying43 z5 rfl (by decide) H12_ 1 rfl (RS.src hP (Holds.ro_at H12_ 0 rfl) Try.underlying43 (one_bytes _)) (by rw [List.length_append, List.length_append]; unfold vi at hvl; omega) ?_)
  intro v17_ w18_ S20_ H19_
  replace H19_ : Holds w18_ (ro R :: sl 5 1 v17_ ((List.length ((ns ++ vint 10) ++ vint ((IntKind.u64.wrap (ds.length : Int)).toNat))) + ds.length) ((bytesV ((ns ++ vint 10) ++ vint ((IntKind.u64.wrap (ds.length : Int)).toNat))) ++ (bytesV ds)) :: F) := H19_
  have S21_ := Same.trans S15_ S20_
  have H22_ : Holds w18_ (ro R :: sl 5 1 v17_ (List.length (((ns ++ vint 10) ++ vint ((IntKind.u64.wrap (ds.length : Int)).toNat)) ++ ds)) (bytesV (((ns ++ vint 10) ++ vint ((IntKind.u64.wrap (ds.length : Int)).toNat)) ++ ds)) :: F) := cast2 (P := fun (c__ : List Value) (k__ : Nat) => Holds w18_ (ro R :: sl 5 1 v17_ k__ c__ :: F)) (bytesV_app _ _ : (bytesV ((ns ++ vint 10) ++ vint ((IntKind.u64.wrap (ds.length : Int)).toNat))) ++ (bytesV ds) = bytesV (((ns ++ vint 10) ++ vint ((IntKind.u64.wrap (ds.length : Int)).toNat)) ++ ds)) (by first | (simp; done) | (simp; omega) | (have := RS.blen hP; simp; omega) : (List.length ((ns ++ vint 10) ++ vint ((IntKind.u64.wrap (ds.length : Int)).toNat))) + ds.length = (List.length (((ns ++ vint 10) ++ vint ((IntKind.u64.wrap (ds.length : Int)).toNat)) ++ ds))) H19_
  refine S_list (T_val (v := v17_) (x_assign rfl) ?_)
  refine wpList_nil ?_
  refine (X_then (hK16_ _ _ ?_))
  clear hK16_
  refine C_ret ?_
  refine R_any (v := v17_) (run_results1 rfl rfl) ?_
  have H23_ : Holds w18_ (ro R :: sl 5 1 v17_ (List.length (ns ++ (vint 10 ++ vi ds.length ++ ds))) (bytesV (ns ++ (vint 10 ++ vi ds.length ++ ds))) :: F) := cast2 (P := fun (c__ : List Value) (k__ : Nat) => Holds w18_ (ro R :: sl 5 1 v17_ k__ c__ :: F)) ((by simp [vi]) : bytesV (((ns ++ vint 10) ++ vint ((IntKind.u64.wrap (ds.length : Int)).toNat)) ++ ds) = bytesV (ns ++ (vint 10 ++ vi ds.length ++ ds))) ((by simp [vi]) : (List.length (((ns ++ vint 10) ++ vint ((IntKind.u64.wrap (ds.length : Int)).toNat)) ++ ds)) = (List.length (ns ++ (vint 10 ++ vi ds.length ++ ds)))) H22_
  exact ⟨_, [sl 5 1 v17_ (List.length (ns ++ (vint 10 ++ vi ds.length ++ ds))) (bytesV (ns ++ (vint 10 ++ vi ds.length ++ ds)))], rfl, ⟨v17_, rfl, rfl⟩, S21_, H23_⟩

set_option maxHeartbeats 400000 in
theorem hByt5 (R : HP) (v p : Value) (ns ds : List Int) (hP : RS R 1 p ds.length (bytesV ds)) (q1 : ns.length ≤ 1000000) (q2 : ds.length ≤ 1000000) :
    Tri Try.prog 156 #[v, (Value.int .i64 5), p] R [sl 5 1 v (List.length ns) (bytesV ns)] (fun v__ post__ => ∃ (v' : Value), v__ = v' ∧ post__ = [sl 5 1 v' (List.length (ns ++ (vint 42 ++ vi ds.length ++ ds))) (bytesV (ns ++ (vint 42 ++ vi ds.length ++ ds)))]) := by
  have hvl := vi_len (ds.length : Int)
  have hu := u64_range (ds.length : Int)
  have hv8 := vint_len10 (n := 42) (by omega)
  refine Tri.into (n := 21) (al := [v, (Value.int .i64 5), p]) Try.func156 rfl Try.ntmps156 rfl rfl fun w F H => ?_
  replace H : Holds w (ro R :: sl 5 1 v (List.length ns) (bytesV ns) :: F) := H
  refine C_seq (fun K1_ hK1_ => ?_)
  refine C_reg ?_
  refine S_list (T_val (v := (Value.slice none 0 0)) (x_assign rfl) ?_)
  refine wpList_nil ?_
  refine (X_then (hK1_ _ _ ?_))
  clear hK1_
  refine C_seq (fun K2_ hK2_ => ?_)
  refine C_reg ?_
  refine S_list (T_val (v := v) (x_move rfl) ?_)
  refine S_list (T_val (v := (Value.int .i64 5)) (x_move rfl) ?_)
  refine S_list (T_val (v := (Value.int .u64 5)) (x_convI rfl Try.underlying3 Try.underlying171 (by decide)) ?_)
  refine S_list (T_val (v := (Value.int .u64 40)) (x_shl rfl rfl (by decide) (by decide)) ?_)
  refine S_list (T_val (v := (Value.int .u64 42)) (x_bin rfl rfl (by rfl)) ?_)
  refine S_list (T_call (al := [v, (Value.int .u64 (42 : Int))]) (pre := [sl 5 1 v (List.length ns) (bytesV ns)]) (F := F) rfl (lcons rfl (lcons (congrArg (Value.int .u64) ((by first | rfl | omega | (simp; done) | (simp; omega)) : 42 = (42 : Int))) rfl)) cb155 (wVint R v ns 42 (by first | assumption | omega) (by first | assumption | omega)) H ?_)
  rintro v3_ p7_ w4_ ⟨_, rfl, rfl⟩ S6_ H5_
  replace H5_ : Holds w4_ (ro R :: sl 5 1 v3_ (List.length (ns ++ vint 42)) (bytesV (ns ++ vint 42)) :: F) := H5_
  have S8_ := Same.trans (Same.refl w) S6_
  refine S_list (T_val (v := v3_) (x_assign rfl) ?_)
  refine wpList_nil ?_
  refine (X_then (hK2_ _ _ ?_))
  clear hK2_
  refine C_seq (fun K9_ hK9_ => ?_)
  refine C_reg ?_
  refine S_list (T_val (v := v3_) (x_move rfl) ?_)
  refine S_list (T_val (v := p) (x_move rfl) ?_)
  refine S_list (T_val (v := (Value.int .i64 (ds.length : Int))) (x_lenRS rfl hP Try.underlying43) ?_)
  refine S_list (T_val (v := (Value.int .u64 (IntKind.u64.wrap (ds.length : Int)))) (x_convI rfl Try.underlying3 Try.underlying171 rfl) ?_)
  refine S_list (T_call (al := [v3_, (Value.int .u64 (((IntKind.u64.wrap (ds.length : Int)).toNat : Nat) : Int))]) (pre := [sl 5 1 v3_ (List.length (ns ++ vint 42)) (bytesV (ns ++ vint 42))]) (F := F) rfl (lcons rfl (lcons (congrArg (Value.int .u64) ((by first | rfl | omega | (simp; done) | (simp; omega)) : IntKind.u64.wrap (ds.length : Int) = (((IntKind.u64.wrap (ds.length : Int)).toNat : Nat) : Int))) rfl)) cb155 (wVint R v3_ (ns ++ vint 42) ((IntKind.u64.wrap (ds.length : Int)).toNat) (by first | assumption | omega) (by rw [List.length_append]; omega)) H5_ ?_)
  rintro v10_ p14_ w11_ ⟨_, rfl, rfl⟩ S13_ H12_
  replace H12_ : Holds w11_ (ro R :: sl 5 1 v10_ (List.length ((ns ++ vint 42) ++ vint ((IntKind.u64.wrap (ds.length : Int)).toNat))) (bytesV ((ns ++ vint 42) ++ vint ((IntKind.u64.wrap (ds.length : Int)).toNat))) :: F) := H12_
  have S15_ := Same.trans S8_ S13_
  refine S_list (T_val (v := v10_) (x_assign rfl) ?_)
  refine wpList_nil ?_
  refine (X_then (hK9_ _ _ ?_))
  clear hK9_
  refine C_seq (fun K16_ hK16_ => ?_)
  refine C_reg ?_
  refine S_list (T_val (v := v10_) (x_move rfl) ?_)
  refine S_list (T_val (v := p) (x_move rfl) ?_)
  refine S_list (T_append rfl rfl Try.underlying43 z5 rfl (by decide) H12_ 1 rfl (RS.src hP (Holds.ro_at H12_ 0 rfl) Try.underlying43 (one_bytes _)) (by rw [List.length_append, List.length_append]; unfold vi at hvl; omega) ?_)
  intro v17_ w18_ S20_ H19_
  replace H19_ : Holds w18_ (ro R :: sl 5 1 v17_ ((List.length ((ns ++ vint 42) ++ vint ((IntKind.u64.wrap (ds.length : Int)).toNat))) + ds.length) ((bytesV ((ns ++ vint 42) ++ vint ((IntKind.u64.wrap (ds.length : Int)).toNat))) ++ (bytesV ds)) :: F) := H19_
  have S21_ := Same.trans S15_ S20_
  have H22_ : Holds w18_ (ro R :: sl 5 1 v17_ (List.length (((ns ++ vint 42) ++ vint ((IntKind.u64.wrap (ds.length : Int)).toNat)) ++ ds)) (bytesV (((ns ++ vint 42) ++ vint ((IntKind.u64.wrap (ds.length : Int)).toNat)) ++ ds)) :: F) := cast2 (P := fun (c__ : List Value) (k__ : Nat) => Holds w18_ (ro R :: sl 5 1 v17_ k__ c__ :: F)) (bytesV_app _ _ : (bytesV ((ns ++ vint 42) ++ vint ((IntKind.u64.wrap (ds.length : Int)).toNat))) ++ (bytesV ds) = bytesV (((ns ++ vint 42) ++ vint ((IntKind.u64.wrap (ds.length : Int)).toNat)) ++ ds)) (by first | (simp; done) | (simp; omega) | (have := RS.blen hP; simp; omega) : (List.length ((ns ++ vint 42) ++ vint ((IntKind.u64.wrap (ds.length : Int)).toNat))) + ds.length = (List.length (((ns ++ vint 42) ++ vint ((IntKind.u64.wrap (ds.length : Int)).toNat)) ++ ds))) H19_
  refine S_list (T_val (v := v17_) (x_assign rfl) ?_)
  refine wpList_nil ?_
  refine (X_then (hK16_ _ _ ?_))
  clear hK16_
  refine C_ret ?_
  refine R_any (v := v17_) (run_results1 rfl rfl) ?_
  have H23_ : Holds w18_ (ro R :: sl 5 1 v17_ (List.length (ns ++ (vint 42 ++ vi ds.length ++ ds))) (bytesV (ns ++ (vint 42 ++ vi ds.length ++ ds))) :: F) := cast2 (P := fun (c__ : List Value) (k__ : Nat) => Holds w18_ (ro R :: sl 5 1 v17_ k__ c__ :: F)) ((by simp [vi]) : bytesV (((ns ++ vint 42) ++ vint ((IntKind.u64.wrap (ds.length : Int)).toNat)) ++ ds) = bytesV (ns ++ (vint 42 ++ vi ds.length ++ ds))) ((by simp [vi]) : (List.length (((ns ++ vint 42) ++ vint ((IntKind.u64.wrap (ds.length : Int)).toNat)) ++ ds)) = (List.length (ns ++ (vint 42 ++ vi ds.length ++ ds)))) H22_
  exact ⟨_, [sl 5 1 v17_ (List.length (ns ++ (vint 42 ++ vi ds.length ++ ds))) (bytesV (ns ++ (vint 42 ++ vi ds.length ++ ds)))], rfl, ⟨v17_, rfl, rfl⟩, S21_, H23_⟩

set_option maxHeartbeats 400000 in
theorem hKV (R : HP) (kb : Nat) (kv vv : Value) (ks vs : List Int) (cr md ver le : Int) (hK : RC R kb 0 [kv, (Value.int .i64 cr), (Value.int .i64 md), (Value.int .i64 ver), vv, (Value.int .i64 le)]) (hk : RS R 1 kv ks.length (bytesV ks)) (hv : RS R 1 vv vs.length (bytesV vs)) (q3 : ks.length ≤ 100000) (q4 : vs.length ≤ 100000) :
    Tri Try.prog 164 #[(Value.pointer (some ⟨kb, 0, none⟩))] R [] (fun v__ post__ => ∃ (v' : Value), v__ = v' ∧ post__ = [sl 5 1 v' (List.length (kvb ks vs cr md ver le)) (bytesV (kvb ks vs cr md ver le))]) := by
  have hl1 := pbyt_len 1 ks (by omega)
  have hl2 := pint_len 2 cr (by omega)
  have hl3 := pint_len 3 md (by omega)
  have hl4 := pint_len 4 ver (by omega)
  have hl5 := pbyt_len 5 vs (by omega)
  refine Tri.into (n := 52) (al := [(Value.pointer (some ⟨kb, 0, none⟩))]) Try.func164 rfl Try.ntmps164 rfl rfl fun w F H => ?_
  replace H : Holds w (ro R :: F) := H
  refine C_seq (fun K1_ hK1_ => ?_)
  refine C_reg ?_
  refine S_list (T_val (v := (Value.slice none 0 0)) (x_assign rfl) ?_)
  refine wpList_nil ?_
  refine (X_then (hK1_ _ _ ?_))
  clear hK1_
  refine C_seq (fun K2_ hK2_ => ?_)
  refine C_reg ?_
  refine S_list (T_val (v := (Value.slice none 0 0)) (x_assign rfl) ?_)
  refine wpList_nil ?_
  refine (X_then (hK2_ _ _ ?_))
  clear hK2_
  have H3_ : Holds w (sl 5 1 (Value.slice none 0 0) (List.length ([] : List Int)) (bytesV ([] : List Int)) :: ro R :: F) := Holds.add_nil H 5 1
  refine C_cut (fun a__ w1__ => ∃ z1 : Value, ∃ h : Env, a__ = mkA 52 (upd (upd (upd h 0 (Value.pointer (some ⟨kb, 0, none⟩))) 2 (Value.slice none 0 0)) 3 z1) [] ∧ Holds w1__ (sl 5 1 z1 (List.length (pbyt 1 ks)) (bytesV (pbyt 1 ks)) :: ro R :: F) ∧ Same w w1__) ?_ ?_
  · refine C_seq (fun K7_ hK7_ => ?_)
    refine C_reg ?_
    refine S_list (T_val (v := (Value.pointer (some ⟨kb, 0, none⟩))) (x_move rfl) ?_)
    refine S_list (T_val (v := (Value.pointer (some ⟨kb, 0, none⟩))) (by kernel_rfl) ?_)
    refine S_list (T_val (v := (Value.pointer (some ⟨kb, 0, none⟩))) (by kernel_rfl) ?_)
    refine S_list (T_val (v := kv) (x_load1 rfl Try.underlying43 rfl (RC.cell hK (Holds.ro_at H3_ 1 rfl) (j := 0) (u := kv) (rfl))) ?_)
    refine S_list (T_val (v := (Value.int .i64 (ks.length : Int))) (x_lenRS rfl hk Try.underlying43) ?_)
    refine S_list (T_val (v := (Value.bool (decide (0 < (ks.length : Int))))) (x_bin rfl rfl rfl) ?_)
    refine wpList_nil ?_
    refine (X_then (hK7_ _ _ ?_))
    clear hK7_
    refine C_cond (b := decide (0 < (ks.length : Int))) rfl (fun c8_t => ?_) (fun c8_f => ?_)
    · have c8_tp : 0 < (ks.length : Int) := of_decide_eq_true c8_t
      refine C_reg ?_
      refine S_list (T_val (v := (Value.slice none 0 0)) (x_move rfl) ?_)
      refine S_list (T_val (v := (Value.pointer (some ⟨kb, 0, none⟩))) (x_move rfl) ?_)
      refine S_list (T_val (v := (Value.pointer (some ⟨kb, 0, none⟩))) (by kernel_rfl) ?_)
      refine S_list (T_val (v := (Value.pointer (some ⟨kb, 0, none⟩))) (by kernel_rfl) ?_)
      refine S_list (T_val (v := kv) (x_load1 rfl Try.underlying43 rfl (RC.cell hK (Holds.ro_at H3_ 1 rfl) (j := 0) (u := kv) (rfl))) ?_)
      have H10_ : Holds w (ro R :: sl 5 1 (Value.slice none 0 0) (List.length ([] : List Int)) (bytesV ([] : List Int)) :: F) := (Holds.bring (Holds.bring H3_ 0 rfl) 1 rfl)
      refine S_list (T_call (al := [((Value.slice none 0 0)), (Value.int .i64 1), kv]) (pre := [sl 5 1 (Value.slice none 0 0) (List.length ([] : List Int)) (bytesV ([] : List Int))]) (F := F) rfl (lcons (rfl : (Value.slice none 0 0) = ((Value.slice none 0 0))) rfl) cb156 (hByt1 R (Value.slice none 0 0) kv ([] : List Int) ks hk (by first | assumption | omega | (simp only [List.length_append, List.length_nil]; omega)) (by first | assumption | omega | (simp only [List.length_append, List.length_nil]; omega))) H10_ ?_)
      rintro v9_ p14_ w11_ ⟨_, rfl, rfl⟩ S13_ H12_
      replace H12_ : Holds w11_ (ro R :: sl 5 1 v9_ (List.length (([] : List Int) ++ (vint 10 ++ vi ks.length ++ ks))) (bytesV (([] : List Int) ++ (vint 10 ++ vi ks.length ++ ks))) :: F) := H12_
      have S15_ := Same.trans (Same.refl w) S13_
      refine S_list (T_val (v := v9_) (x_assign rfl) ?_)
      refine wpList_nil ?_
      refine (X_then ?_)
      have H16_ : Holds w11_ (ro R :: sl 5 1 v9_ (List.length (pbyt 1 ks)) (bytesV (pbyt 1 ks)) :: F) := cast2 (P := fun (c__ : List Value) (k__ : Nat) => Holds w11_ (ro R :: sl 5 1 v9_ k__ c__ :: F)) ((by rw [pbyt_pos (f := 1) (u := ks) c8_tp]; simp) : bytesV (([] : List Int) ++ (vint 10 ++ vi ks.length ++ ks)) = bytesV (pbyt 1 ks)) ((by rw [pbyt_pos (f := 1) (u := ks) c8_tp]; simp) : (List.length (([] : List Int) ++ (vint 10 ++ vi ks.length ++ ks))) = (List.length (pbyt 1 ks))) H12_
      have H17_ : Holds w11_ (sl 5 1 v9_ (List.length (pbyt 1 ks)) (bytesV (pbyt 1 ks)) :: ro R :: F) := (Holds.bring (Holds.bring H16_ 0 rfl) 1 rfl)
      exact ⟨v9_, _, congrArg (fun e => mkA 52 e []) (ch (ch (ch rfl rfl) rfl) rfl), H17_, S15_⟩
    · have c8_fp : ¬ (0 < (ks.length : Int)) := of_decide_eq_false c8_f
      refine C_skip (X_then ?_)
      have H18_ : Holds w (sl 5 1 (Value.slice none 0 0) (List.length (pbyt 1 ks)) (bytesV (pbyt 1 ks)) :: ro R :: F) := cast2 (P := fun (c__ : List Value) (k__ : Nat) => Holds w (sl 5 1 (Value.slice none 0 0) k__ c__ :: ro R :: F)) ((by simp [pbyt, List.eq_nil_of_length_eq_zero (by omega : ks.length = 0)]) : bytesV ([] : List Int) = bytesV (pbyt 1 ks)) ((by simp [pbyt, List.eq_nil_of_length_eq_zero (by omega : ks.length = 0)]) : (List.length ([] : List Int)) = (List.length (pbyt 1 ks))) H3_
      exact ⟨(Value.slice none 0 0), _, congrArg (fun e => mkA 52 e []) (ch (ch (ch rfl rfl) rfl) (rfl : (Value.slice none 0 0) = ((Value.slice none 0 0)))), H18_, (Same.refl w)⟩
  · rintro _ w4_ ⟨z1, h, rfl, H5_, S6_⟩
    refine C_seq (fun K19_ hK19_ => ?_)
    refine C_reg ?_
    refine S_list (T_val (v := z1) (x_move rfl) ?_)
    refine S_list (T_val (v := (Value.pointer (some ⟨kb, 0, none⟩))) (x_move rfl) ?_)
    refine S_list (T_val (v := (Value.pointer (some ⟨kb, 0, none⟩))) (by kernel_rfl) ?_)
    refine S_list (T_val (v := (Value.pointer (some ⟨kb, 1, none⟩))) (by kernel_rfl) ?_)
    refine S_list (T_val (v := (Value.int .i64 cr)) (x_load1 rfl Try.underlying2 rfl (RC.cell hK (Holds.ro_at H5_ 1 rfl) (j := 1) (u := (Value.int .i64 cr)) (rfl))) ?_)
    have H21_ : Holds w4_ (ro R :: sl 5 1 z1 (List.length (pbyt 1 ks)) (bytesV (pbyt 1 ks)) :: F) := (Holds.bring (Holds.bring H5_ 0 rfl) 1 rfl)
    refine S_list (T_call (al := [z1, (Value.int .i64 2), (Value.int .i64 cr)]) (pre := [sl 5 1 z1 (List.length (pbyt 1 ks)) (bytesV (pbyt 1 ks))]) (F := F) rfl rfl cb165 (hInt2 R z1 (pbyt 1 ks) cr (by first | assumption | omega | (simp only [List.length_append, List.length_nil]; omega))) H21_ ?_)
    rintro v20_ p25_ w22_ ⟨_, rfl, rfl⟩ S24_ H23_
    replace H23_ : Holds w22_ (ro R :: sl 5 1 v20_ (List.length ((pbyt 1 ks) ++ pint 2 cr)) (bytesV ((pbyt 1 ks) ++ pint 2 cr)) :: F) := H23_
    have S26_ := Same.trans S6_ S24_
    refine S_list (T_val (v := v20_) (x_assign rfl) ?_)
    refine wpList_nil ?_
    refine (X_then (hK19_ _ _ ?_))
    clear hK19_
    refine C_seq (fun K27_ hK27_ => ?_)
    refine C_reg ?_
    refine S_list (T_val (v := v20_) (x_move rfl) ?_)
    refine S_list (T_val (v := (Value.pointer (some ⟨kb, 0, none⟩))) (x_move rfl) ?_)
    refine S_list (T_val (v := (Value.pointer (some ⟨kb, 0, none⟩))) (by kernel_rfl) ?_)
    refine S_list (T_val (v := (Value.pointer (some ⟨kb, 2, none⟩))) (by kernel_rfl) ?_)
    refine S_list (T_val (v := (Value.int .i64 md)) (x_load1 rfl Try.underlying2 rfl (RC.cell hK (Holds.ro_at H23_ 0 rfl) (j := 2) (u := (Value.int .i64 md)) (rfl))) ?_)
    refine S_list (T_call (al := [v20_, (Value.int .i64 3), (Value.int .i64 md)]) (pre := [sl 5 1 v20_ (List.length ((pbyt 1 ks) ++ pint 2 cr)) (bytesV ((pbyt 1 ks) ++ pint 2 cr))]) (F := F) rfl rfl cb165 (hInt3 R v20_ ((pbyt 1 ks) ++ pint 2 cr) md (by first | assumption | omega | (simp only [List.length_append, List.length_nil]; omega))) H23_ ?_)
    rintro v28_ p32_ w29_ ⟨_, rfl, rfl⟩ S31_ H30_
    replace H30_ : Holds w29_ (ro R :: sl 5 1 v28_ (List.length (((pbyt 1 ks) ++ pint 2 cr) ++ pint 3 md)) (bytesV (((pbyt 1 ks) ++ pint 2 cr) ++ pint 3 md)) :: F) := H30_
    have S33_ := Same.trans S26_ S31_
    refine S_list (T_val (v := v28_) (x_assign rfl) ?_)
    refine wpList_nil ?_
    refine (X_then (hK27_ _ _ ?_))
    clear hK27_
    refine C_seq (fun K34_ hK34_ => ?_)
    refine C_reg ?_
    refine S_list (T_val (v := v28_) (x_move rfl) ?_)
    refine S_list (T_val (v := (Value.pointer (some ⟨kb, 0, none⟩))) (x_move rfl) ?_)
    refine S_list (T_val (v := (Value.pointer (some ⟨kb, 0, none⟩))) (by kernel_rfl) ?_)
    refine S_list (T_val (v := (Value.pointer (some ⟨kb, 3, none⟩))) (by kernel_rfl) ?_)
    refine S_list (T_val (v := (Value.int .i64 ver)) (x_load1 rfl Try.underlying2 rfl (RC.cell hK (Holds.ro_at H30_ 0 rfl) (j := 3) (u := (Value.int .i64 ver)) (rfl))) ?_)
    refine S_list (T_call (al := [v28_, (Value.int .i64 4), (Value.int .i64 ver)]) (pre := [sl 5 1 v28_ (List.length (((pbyt 1 ks) ++ pint 2 cr) ++ pint 3 md)) (bytesV (((pbyt 1 ks) ++ pint 2 cr) ++ pint 3 md))]) (F := F) rfl rfl cb165 (hInt4 R v28_ (((pbyt 1 ks) ++ pint 2 cr) ++ pint 3 md) ver (by first | assumption | omega | (simp only [List.length_append, List.length_nil]; omega))) H30_ ?_)
    rintro v35_ p39_ w36_ ⟨_, rfl, rfl⟩ S38_ H37_
    replace H37_ : Holds w36_ (ro R :: sl 5 1 v35_ (List.length ((((pbyt 1 ks) ++ pint 2 cr) ++ pint 3 md) ++ pint 4 ver)) (bytesV ((((pbyt 1 ks) ++ pint 2 cr) ++ pint 3 md) ++ pint 4 ver)) :: F) := H37_
    have S40_ := Same.trans S33_ S38_
    refine S_list (T_val (v := v35_) (x_assign rfl) ?_)
    refine wpList_nil ?_
    refine (X_then (hK34_ _ _ ?_))
    clear hK34_
    refine C_cut (fun a__ w1__ => ∃ z2 : Value, ∃ h : Env, a__ = mkA 52 (upd (upd (upd h 0 (Value.pointer (some ⟨kb, 0, none⟩))) 2 (Value.slice none 0 0)) 3 z2) [] ∧ Holds w1__ (ro R :: sl 5 1 z2 (List.length (pbyt 1 ks ++ pint 2 cr ++ pint 3 md ++ pint 4 ver ++ pbyt 5 vs)) (bytesV (pbyt 1 ks ++ pint 2 cr ++ pint 3 md ++ pint 4 ver ++ pbyt 5 vs)) :: F) ∧ Same w w1__) ?_ ?_
    · refine C_seq (fun K44_ hK44_ => ?_)
      refine C_reg ?_
      refine S_list (T_val (v := (Value.pointer (some ⟨kb, 0, none⟩))) (x_move rfl) ?_)
      refine S_list (T_val (v := (Value.pointer (some ⟨kb, 0, none⟩))) (by kernel_rfl) ?_)
      refine S_list (T_val (v := (Value.pointer (some ⟨kb, 4, none⟩))) (by kernel_rfl) ?_)
      refine S_list (T_val (v := vv) (x_load1 rfl Try.underlying43 rfl (RC.cell hK (Holds.ro_at H37_ 0 rfl) (j := 4) (u := vv) (rfl))) ?_)
      refine S_list (T_val (v := (Value.int .i64 (vs.length : Int))) (x_lenRS rfl hv Try.underlying43) ?_)
      refine S_list (T_val (v := (Value.bool (decide (0 < (vs.length : Int))))) (x_bin rfl rfl rfl) ?_)
      refine wpList_nil ?_
      refine (X_then (hK44_ _ _ ?_))
      clear hK44_
      refine C_cond (b := decide (0 < (vs.length : Int))) rfl (fun c45_t => ?_) (fun c45_f => ?_)
      · have c45_tp : 0 < (vs.length : Int) := of_decide_eq_true c45_t
        refine C_reg ?_
        refine S_list (T_val (v := v35_) (x_move rfl) ?_)
        refine S_list (T_val (v := (Value.pointer (some ⟨kb, 0, none⟩))) (x_move rfl) ?_)
        refine S_list (T_val (v := (Value.pointer (some ⟨kb, 0, none⟩))) (by kernel_rfl) ?_)
        refine S_list (T_val (v := (Value.pointer (some ⟨kb, 4, none⟩))) (by kernel_rfl) ?_)
        refine S_list (T_val (v := vv) (x_load1 rfl Try.underlying43 rfl (RC.cell hK (Holds.ro_at H37_ 0 rfl) (j := 4) (u := vv) (rfl))) ?_)
        refine S_list (T_call (al := [v35_, (Value.int .i64 5), vv]) (pre := [sl 5 1 v35_ (List.length ((((pbyt 1 ks) ++ pint 2 cr) ++ pint 3 md) ++ pint 4 ver)) (bytesV ((((pbyt 1 ks) ++ pint 2 cr) ++ pint 3 md) ++ pint 4 ver))]) (F := F) rfl rfl cb156 (hByt5 R v35_ vv ((((pbyt 1 ks) ++ pint 2 cr) ++ pint 3 md) ++ pint 4 ver) vs hv (by first | assumption | omega | (simp only [List.length_append, List.length_nil]; omega)) (by first | assumption | omega | (simp only [List.length_append, List.length_nil]; omega))) H37_ ?_)
        rintro v46_ p50_ w47_ ⟨_, rfl, rfl⟩ S49_ H48_
        replace H48_ : Holds w47_ (ro R :: sl 5 1 v46_ (List.length (((((pbyt 1 ks) ++ pint 2 cr) ++ pint 3 md) ++ pint 4 ver) ++ (vint 42 ++ vi vs.length ++ vs))) (bytesV (((((pbyt 1 ks) ++ pint 2 cr) ++ pint 3 md) ++ pint 4 ver) ++ (vint 42 ++ vi vs.length ++ vs))) :: F) := H48_
        have S51_ := Same.trans S40_ S49_
        refine S_list (T_val (v := v46_) (x_assign rfl) ?_)
        refine wpList_nil ?_
        refine (X_then ?_)
        have H52_ : Holds w47_ (ro R :: sl 5 1 v46_ (List.length (pbyt 1 ks ++ pint 2 cr ++ pint 3 md ++ pint 4 ver ++ pbyt 5 vs)) (bytesV (pbyt 1 ks ++ pint 2 cr ++ pint 3 md ++ pint 4 ver ++ pbyt 5 vs)) :: F) := cast2 (P := fun (c__ : List Value) (k__ : Nat) => Holds w47_ (ro R :: sl 5 1 v46_ k__ c__ :: F)) ((by rw [pbyt_pos (f := 5) (u := vs) c45_tp]) : bytesV (((((pbyt 1 ks) ++ pint 2 cr) ++ pint 3 md) ++ pint 4 ver) ++ (vint 42 ++ vi vs.length ++ vs)) = bytesV (pbyt 1 ks ++ pint 2 cr ++ pint 3 md ++ pint 4 ver ++ pbyt 5 vs)) ((by rw [pbyt_pos (f := 5) (u := vs) c45_tp]) : (List.length (((((pbyt 1 ks) ++ pint 2 cr) ++ pint 3 md) ++ pint 4 ver) ++ (vint 42 ++ vi vs.length ++ vs))) = (List.length (pbyt 1 ks ++ pint 2 cr ++ pint 3 md ++ pint 4 ver ++ pbyt 5 vs))) H48_
        exact ⟨v46_, _, congrArg (fun e => mkA 52 e []) (ch (ch (ch rfl rfl) rfl) rfl), H52_, S51_⟩
      · have c45_fp : ¬ (0 < (vs.length : Int)) := of_decide_eq_false c45_f
        refine C_skip (X_then ?_)
        have H53_ : Holds w36_ (ro R :: sl 5 1 v35_ (List.length (pbyt 1 ks ++ pint 2 cr ++ pint 3 md ++ pint 4 ver ++ pbyt 5 vs)) (bytesV (pbyt 1 ks ++ pint 2 cr ++ pint 3 md ++ pint 4 ver ++ pbyt 5 vs)) :: F) := cast2 (P := fun (c__ : List Value) (k__ : Nat) => Holds w36_ (ro R :: sl 5 1 v35_ k__ c__ :: F)) ((by simp [pbyt, List.eq_nil_of_length_eq_zero (by omega : vs.length = 0)]) : bytesV ((((pbyt 1 ks) ++ pint 2 cr) ++ pint 3 md) ++ pint 4 ver) = bytesV (pbyt 1 ks ++ pint 2 cr ++ pint 3 md ++ pint 4 ver ++ pbyt 5 vs)) ((by simp [pbyt, List.eq_nil_of_length_eq_zero (by omega : vs.length = 0)]) : (List.length ((((pbyt 1 ks) ++ pint 2 cr) ++ pint 3 md) ++ pint 4 ver)) = (List.length (pbyt 1 ks ++ pint 2 cr ++ pint 3 md ++ pint 4 ver ++ pbyt 5 vs))) H37_
        exact ⟨v35_, _, congrArg (fun e => mkA 52 e []) (ch (ch (ch rfl rfl) rfl) rfl), H53_, S40_⟩
    · rintro _ w41_ ⟨z2, h, rfl, H42_, S43_⟩
      refine C_seq (fun K54_ hK54_ => ?_)
      refine C_reg ?_
      refine S_list (T_val (v := z2) (x_move rfl) ?_)
      refine S_list (T_val (v := (Value.pointer (some ⟨kb, 0, none⟩))) (x_move rfl) ?_)
      refine S_list (T_val (v := (Value.pointer (some ⟨kb, 0, none⟩))) (by kernel_rfl) ?_)
      refine S_list (T_val (v := (Value.pointer (some ⟨kb, 5, none⟩))) (by kernel_rfl) ?_)
      refine S_list (T_val (v := (Value.int .i64 le)) (x_load1 rfl Try.underlying2 rfl (RC.cell hK (Holds.ro_at H42_ 0 rfl) (j := 5) (u := (Value.int .i64 le)) (rfl))) ?_)
      refine S_list (T_call (al := [z2, (Value.int .i64 6), (Value.int .i64 le)]) (pre := [sl 5 1 z2 (List.length (pbyt 1 ks ++ pint 2 cr ++ pint 3 md ++ pint 4 ver ++ pbyt 5 vs)) (bytesV (pbyt 1 ks ++ pint 2 cr ++ pint 3 md ++ pint 4 ver ++ pbyt 5 vs))]) (F := F) rfl rfl cb165 (hInt6 R z2 (pbyt 1 ks ++ pint 2 cr ++ pint 3 md ++ pint 4 ver ++ pbyt 5 vs) le (by first | assumption | omega | (simp only [List.length_append, List.length_nil]; omega))) H42_ ?_)
      rintro v55_ p59_ w56_ ⟨_, rfl, rfl⟩ S58_ H57_
      replace H57_ : Holds w56_ (ro R :: sl 5 1 v55_ (List.length ((pbyt 1 ks ++ pint 2 cr ++ pint 3 md ++ pint 4 ver ++ pbyt 5 vs) ++ pint 6 le)) (bytesV ((pbyt 1 ks ++ pint 2 cr ++ pint 3 md ++ pint 4 ver ++ pbyt 5 vs) ++ pint 6 le)) :: F) := H57_
      have S60_ := Same.trans S43_ S58_
      refine S_list (T_val (v := v55_) (x_assign rfl) ?_)
      refine wpList_nil ?_
      refine (X_then (hK54_ _ _ ?_))
      clear hK54_
      refine C_ret ?_
      refine R_any (v := v55_) (run_results1 rfl rfl) ?_
      have H61_ : Holds w56_ (ro R :: sl 5 1 v55_ (List.length (kvb ks vs cr md ver le)) (bytesV (kvb ks vs cr md ver le)) :: F) := cast2 (P := fun (c__ : List Value) (k__ : Nat) => Holds w56_ (ro R :: sl 5 1 v55_ k__ c__ :: F)) ((by simp [kvb]) : bytesV ((pbyt 1 ks ++ pint 2 cr ++ pint 3 md ++ pint 4 ver ++ pbyt 5 vs) ++ pint 6 le) = bytesV (kvb ks vs cr md ver le)) ((by simp [kvb]) : (List.length ((pbyt 1 ks ++ pint 2 cr ++ pint 3 md ++ pint 4 ver ++ pbyt 5 vs) ++ pint 6 le)) = (List.length (kvb ks vs cr md ver le))) H57_
      exact ⟨_, [sl 5 1 v55_ (List.length (kvb ks vs cr md ver le)) (bytesV (kvb ks vs cr md ver le))], rfl, ⟨v55_, rfl, rfl⟩, S60_, H61_⟩
end Go.Proofs.Ytgeggiebefonhaa
