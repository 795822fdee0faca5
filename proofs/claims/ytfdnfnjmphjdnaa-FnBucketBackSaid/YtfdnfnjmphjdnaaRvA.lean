/- What the functions over revisions come to. -/
import Derived.Test.YtfdnfnjmphjdnaaGwJ
import Derived.Test.YtfdnfnjmphjdnaaTy
set_option linter.unusedVariables false
set_option linter.unusedSimpArgs false
namespace Go.Proofs.Ytfdnfnjmphjdnaa
open Go Go.RowKit Gw

/-- The byte number k of a number, the greatest first, eight of them, written into cells. -/
def put8 (cs : List Value) (off : Nat) (x : Int) : Nat → List Value
  | 0 => cs
  | k + 1 => (put8 cs off x k).set (off + k) (.int .u8 ((x / 2 ^ (8 * (7 - k))) % 256))
theorem put8_length (cs : List Value) (off : Nat) (x : Int) (k : Nat) : (put8 cs off x k).length = cs.length := by
  induction k with
  | zero => rfl
  | succ k ih => simp [put8, ih]
theorem shr_by (x : Int) (k : Nat) (h : (k : Int) < 8) : x.fdiv (2 ^ (min (8 * (7 - (k : Int))).toNat (IntKind.bits .u64))) = x / 2 ^ (8 * (7 - k)) := by
  have e : min (8 * (7 - (k : Int))).toNat (IntKind.bits .u64) = 8 * (7 - k) := by simp only [IntKind.bits]; omega
  rw [e]
  exact Int.fdiv_eq_ediv_of_nonneg _ (by exact Int.le_of_lt (Int.pow_pos (by decide)))
theorem wrap_u64_nn (n : Int) : 0 ≤ IntKind.u64.wrap n := by
  have e1 : (2 : Int) ^ 64 = 18446744073709551616 := by decide
  simp only [IntKind.wrap, IntKind.bits, IntKind.signed, e1, Bool.false_and, Bool.false_eq_true, if_false]
  omega
/-- A number's eight bytes, the greatest first. -/
def be8 (x : Int) : List Int := (List.range 8).map fun k => x / 2 ^ (8 * (7 - k)) % 256
/-- A bucket's key, and the byte behind it. -/
def rvb (u v : Int) : List Int := be8 u ++ [95] ++ be8 v
theorem be8_take (x : Int) (k : Nat) (h : k < 8) : bytesV ((be8 x).take k) ++ [Value.int .u8 (x / 2 ^ (8 * (7 - k)) % 256)] = bytesV ((be8 x).take (k + 1)) := by
  rw [List.take_succ_eq_append_getElem (by simpa [be8] using h)]
  simp [bytesV, be8]
theorem shr_main (x : Int) (k : Nat) (h : k < 8) : x.fdiv (2 ^ (min (56 - 8 * (k : Int)).toNat (IntKind.bits .u64))) = x / 2 ^ (8 * (7 - k)) := by
  have e : min (56 - 8 * (k : Int)).toNat (IntKind.bits .u64) = 8 * (7 - k) := by simp only [IntKind.bits]; omega
  rw [e]
  exact Int.fdiv_eq_ediv_of_nonneg _ (by exact Int.le_of_lt (Int.pow_pos (by decide)))
theorem wrap_u8 (n : Int) : IntKind.u8.wrap n = n % 256 := by rw [IntKind.wrap_u8]

set_option maxHeartbeats 400000 in
theorem newRevBytes (R : HP) :
    Tri Try.prog 32 #[] R [] (fun v post => ∃ b, v = .slice (some ⟨b, 0, none⟩) 17 18 ∧ post = [cl b 5 (List.replicate 18 (.int .u8 0))]) := by
  refine Tri.into (n := 2) (al := []) Try.func32 rfl Try.ntmps32 rfl rfl fun w F H => ?_
  replace H : Holds w (ro R :: F) := H
  refine C_seq (fun K1_ hK1_ => ?_)
  refine C_reg ?_
  refine S_list (T_val (v := (Value.slice none 0 0)) (x_assign rfl) ?_)
  refine wpList_nil ?_
  refine (X_then (hK1_ _ _ ?_))
  clear hK1_
  refine C_seq (fun K2_ hK2_ => ?_)
  refine C_reg ?_
  refine S_list (T_makeSlice1 (len := 17) (cap := 18) rfl rfl Try.underlying25 z5 rfl (by omega) (by omega) (by omega) (by omega) (by omega) H ?_)
  intro b3_ w4_ S6_ H5_
  replace H5_ : Holds w4_ (cl b3_ 5 (List.replicate 18 (Value.int .u8 0)) :: ro R :: F) := H5_
  have S7_ := Same.trans (Same.refl w) S6_
  refine S_list (T_val (v := (Value.slice (some ⟨b3_, 0, none⟩) 17 18)) (x_assign rfl) ?_)
  refine wpList_nil ?_
  refine (X_then (hK2_ _ _ ?_))
  clear hK2_
  refine C_ret ?_
  refine R_any (v := (Value.slice (some ⟨b3_, 0, none⟩) 17 18)) (run_results1 rfl rfl) ?_
  have H8_ : Holds w4_ (ro R :: cl b3_ 5 (List.replicate 18 (Value.int .u8 0)) :: F) := (Holds.bring (Holds.bring H5_ 1 rfl) 0 rfl)
  exact ⟨_, [cl b3_ 5 (List.replicate 18 (Value.int .u8 0))], rfl, ⟨_, rfl, rfl⟩, S7_, H8_⟩

set_option maxHeartbeats 400000 in
theorem newBucketKey (R : HP) (x y : Int) (t : Bool) :
    Tri Try.prog 57 #[(Value.int .i64 x), (Value.int .i64 y), (Value.bool t)] R [] (fun v post => v = .agg #[.int .i64 x, .int .i64 y, .bool t] ∧ post = []) := by
  refine Tri.into (n := 12) (al := [(Value.int .i64 x), (Value.int .i64 y), (Value.bool t)]) Try.func57 rfl Try.ntmps57 rfl rfl fun w F H => ?_
  replace H : Holds w (ro R :: F) := H
  refine C_seq (fun K1_ hK1_ => ?_)
  refine C_reg ?_
  refine S_list (T_alloc z82 H ?_)
  intro b2_ w3_ S5_ H4_
  replace H4_ : Holds w3_ (cl b2_ 82 [(Value.int .i64 0), (Value.int .i64 0), (Value.bool false)] :: ro R :: F) := H4_
  have S6_ := Same.trans (Same.refl w) S5_
  refine wpList_nil ?_
  refine (X_then (hK1_ _ _ ?_))
  clear hK1_
  refine C_seq (fun K7_ hK7_ => ?_)
  refine C_reg ?_
  refine S_list (T_val (v := (Value.int .i64 x)) (x_move rfl) ?_)
  refine S_list (T_val (v := (Value.int .i64 y)) (x_move rfl) ?_)
  refine S_list (T_val (v := (Value.agg #[(Value.int .i64 x), (Value.int .i64 y)])) (by kernel_rfl) ?_)
  refine S_list (T_val (v := (Value.bool t)) (x_move rfl) ?_)
  refine S_list (T_val (v := (Value.agg #[(Value.int .i64 x), (Value.int .i64 y), (Value.bool t)])) (by kernel_rfl) ?_)
  refine S_list0 (T_storeN (vs := [(Value.int .i64 x), (Value.int .i64 y), (Value.bool t)]) rfl rfl z82 rfl (by simp [Value.oneCell']) H4_ 0 rfl (Nat.le_of_ble_eq_true (by rfl)) ?_)
  intro w8_ S10_ H9_
  replace H9_ : Holds w8_ (cl b2_ 82 [(Value.int .i64 x), (Value.int .i64 y), (Value.bool t)] :: ro R :: F) := H9_
  have S11_ := Same.trans S6_ S10_
  refine wpList_nil ?_
  refine (X_then (hK7_ _ _ ?_))
  clear hK7_
  refine C_ret ?_
  refine R_any (v := (Value.agg #[(Value.int .i64 x), (Value.int .i64 y), (Value.bool t)])) (run_results1 rfl ⟨_, rfl, load_resN Try.underlying82 rfl z82 rfl (vs := [(Value.int .i64 x), (Value.int .i64 y), (Value.bool t)]) (Holds.cl_cells H9_ 0 rfl 0 rfl)⟩) ?_
  have H12_ : Holds w8_ (ro R :: F) := (Holds.erase (Holds.bring H9_ 1 rfl) 1)
  exact ⟨_, [], rfl, ⟨rfl, rfl⟩, S11_, H12_⟩

set_option maxHeartbeats 400000 in
theorem putUint64 (R : HP) (b off len cap : Nat) (cs : List Value) (x : Int) (hl : 8 ≤ len) (hc : off + len ≤ cs.length) (hx : 0 ≤ x) :
    Tri Try.prog 65 #[(Value.slice (some ⟨b, off, none⟩) len cap), (Value.int .u64 x)] R [cl b 5 cs] (fun v post => v = .tuple #[] ∧ post = [cl b 5 (put8 cs off x 8)]) := by
  refine Tri.into (n := 19) (al := [(Value.slice (some ⟨b, off, none⟩) len cap), (Value.int .u64 x)]) Try.func65 rfl Try.ntmps65 rfl rfl fun w F H => ?_
  replace H : Holds w (ro R :: cl b 5 cs :: F) := H
  refine C_seq (fun K1_ hK1_ => ?_)
  refine C_reg ?_
  refine S_list (T_val (v := (Value.int .i64 0)) (x_assign rfl) ?_)
  refine wpList_nil ?_
  refine (X_then (hK1_ _ _ ?_))
  clear hK1_
  refine C_block ?_
  refine C_loop (γ := Nat) (fun k a w1 => ∃ h : Env, a = mkA 19 (upd (upd (upd h 0 (Value.slice (some ⟨b, off, none⟩) len cap)) 1 (Value.int .u64 x)) 4 (Value.int .i64 (k : Int))) [] ∧ Holds w1 (ro R :: cl b 5 (put8 cs off x k) :: F) ∧ Same w w1 ∧ (k ≤ 8)) (fun k => 8 - k) (0) ⟨_, congrArg (fun e => mkA 19 e []) (ch (ch (ch rfl (by first | rfl | exact congrArg (Value.int _) (by omega))) (by first | rfl | exact congrArg (Value.int _) (by omega))) (by first | rfl | exact congrArg (Value.int _) (by omega))), H, (Same.refl w), by omega⟩ ?_
  rintro k _ w2_ ⟨h, rfl, H3_, S4_, hk⟩
  refine C_seq (fun K5_ hK5_ => ?_)
  refine C_seq (fun K6_ hK6_ => ?_)
  refine C_reg ?_
  refine S_list (T_val (v := (Value.int .i64 (k : Int))) (x_move rfl) ?_)
  refine S_list (T_val (v := (Value.bool (decide ((k : Int) < 8)))) (x_bin rfl rfl rfl) ?_)
  refine wpList_nil ?_
  refine (X_then (hK6_ _ _ ?_))
  clear hK6_
  refine C_cond (b := decide ((k : Int) < 8)) rfl (fun c7_t => ?_) (fun c7_f => ?_)
  · have c7_tp : (k : Int) < 8 := of_decide_eq_true c7_t
    refine C_skip (X_then (hK5_ _ _ ?_))
    clear hK5_
    refine C_seq (fun K8_ hK8_ => ?_)
    refine C_block ?_
    refine C_reg ?_
    refine S_list (T_val (v := (Value.slice (some ⟨b, off, none⟩) len cap)) (x_move rfl) ?_)
    refine S_list (T_val (v := (Value.int .i64 (k : Int))) (x_move rfl) ?_)
    refine S_list (T_val (v := (Value.int .u64 x)) (x_move rfl) ?_)
    refine S_list (T_val (v := (Value.int .i64 (k : Int))) (x_move rfl) ?_)
    refine S_list (T_val (v := (Value.int .i64 (7 - (k : Int)))) (x_bin rfl rfl (ib_sub (IntWalk.i64_in _ (by omega)))) ?_)
    refine S_list (T_val (v := (Value.int .u64 (7 - (k : Int)))) (x_convI rfl Try.underlying3 Try.underlying170 (IntWalk.u64_in _ (by omega))) ?_)
    refine S_list (T_val (v := (Value.int .u64 (8 * (7 - (k : Int))))) (x_bin rfl rfl (ib_mul (IntWalk.u64_in _ (by omega)))) ?_)
    refine S_list (T_val (v := (Value.int .u64 (x / 2 ^ (8 * (7 - k))))) (x_shr rfl rfl (by omega) (shr_by x k (by omega))) ?_)
    refine S_list (T_val (v := (Value.int .u8 ((x / 2 ^ (8 * (7 - k))) % 256))) (x_convI rfl Try.underlying64 Try.underlying5 (wrap_u8 _)) ?_)
    refine S_list (T_val (v := (Value.pointer (some ⟨b, off + k, none⟩))) (x_indexAddr rfl rfl Try.underlying25 z5 (by omega) (by omega) (by omega : _ = k) (by first | rfl | simp | (congr 1; omega))) ?_)
    refine S_list0 (T_store1 (v := (Value.int .u8 ((x / 2 ^ (8 * (7 - k))) % 256))) rfl rfl z5 rfl H3_ 1 rfl (by rw [put8_length]; omega) ?_)
    intro w9_ S11_ H10_
    replace H10_ : Holds w9_ (ro R :: cl b 5 (put8 cs off x (k + 1)) :: F) := H10_
    have S12_ := Same.trans S4_ S11_
    refine wpList_nil ?_
    refine (X_blkN (X_then (hK8_ _ _ ?_)))
    clear hK8_
    refine C_reg ?_
    refine S_list (T_val (v := (Value.int .i64 (k : Int))) (x_move rfl) ?_)
    refine S_list (T_val (v := (Value.int .i64 ((k : Int) + 1))) (x_bin rfl rfl (ib_add (IntWalk.i64_in _ (by omega)))) ?_)
    refine S_list (T_val (v := (Value.int .i64 ((k : Int) + 1))) (x_assign rfl) ?_)
    refine wpList_nil ?_
    refine (X_then ?_)
    exact ⟨k + 1, ⟨_, congrArg (fun e => mkA 19 e []) (ch (ch (ch rfl (by first | rfl | exact congrArg (Value.int _) (by omega))) (by first | rfl | exact congrArg (Value.int _) (by omega))) (by first | rfl | exact congrArg (Value.int _) (by omega))), H10_, S12_, by omega⟩, by first | omega | (simp; omega)⟩
  · have c7_fp : ¬ ((k : Int) < 8) := of_decide_eq_false c7_f
    refine C_exit (X_thenX (X_thenX (X_blkHit ?_)))
    refine R_0 rfl ?_
    exact ⟨_, [cl b 5 (put8 cs off x k)], rfl, ⟨rfl, by rw [show k = 8 by omega]⟩, S4_, H3_⟩

set_option maxHeartbeats 400000 in
theorem bk17f (R : HP) (b : Nat) (m s : Int) :
    Tri Try.prog 45 #[(Value.agg #[(Value.int .i64 m), (Value.int .i64 s), (Value.bool false)]), (Value.slice (some ⟨b, 0, none⟩) 17 18)] R [cl b 5 (List.replicate 18 (.int .u8 0))] (fun v post => post = [sl 5 1 v 17 (bytesV (rvb (IntKind.u64.wrap m) (IntKind.u64.wrap s)))]) := by
  refine Tri.into (n := 34) (al := [(Value.agg #[(Value.int .i64 m), (Value.int .i64 s), (Value.bool false)]), (Value.slice (some ⟨b, 0, none⟩) 17 18)]) Try.func45 rfl Try.ntmps45 rfl rfl fun w F H => ?_
  replace H : Holds w (ro R :: cl b 5 (List.replicate 18 (.int .u8 0)) :: F) := H
  refine C_seq (fun K1_ hK1_ => ?_)
  refine C_reg ?_
  refine S_list (T_box (v := (Value.agg #[(Value.int .i64 m), (Value.int .i64 s), (Value.bool false)])) rfl H ?_)
  intro b2_ w3_ S5_ H4_
  replace H4_ : Holds w3_ (cl b2_ 82 [(Value.int .i64 m), (Value.int .i64 s), (Value.bool false)] :: ro R :: cl b 5 (List.replicate 18 (.int .u8 0)) :: F) := H4_
  have S6_ := Same.trans (Same.refl w) S5_
  refine S_list (T_val (v := (Value.slice none 0 0)) (x_assign rfl) ?_)
  refine wpList_nil ?_
  refine (X_then (hK1_ _ _ ?_))
  clear hK1_
  refine C_seq (fun K7_ hK7_ => ?_)
  refine C_reg ?_
  refine S_list (T_val (v := (Value.slice (some ⟨b, 0, none⟩) 17 18)) (x_move rfl) ?_)
  refine S_list (T_val (v := (Value.pointer (some ⟨b2_, 0, none⟩))) (by kernel_rfl) ?_)
  refine S_list (T_val (v := (Value.pointer (some ⟨b2_, 0, none⟩))) (by kernel_rfl) ?_)
  refine S_list (T_val (v := (Value.int .i64 m)) (x_load1 rfl Try.underlying2 rfl ((Holds.rd H4_ 0 rfl) 0 (Value.int .i64 m) rfl)) ?_)
  refine S_list (T_val (v := (Value.int .u64 (IntKind.u64.wrap m))) (x_convI rfl Try.underlying2 Try.underlying64 rfl) ?_)
  have H8_ : Holds w3_ (ro R :: cl b 5 (List.replicate 18 (.int .u8 0)) :: cl b2_ 82 [(Value.int .i64 m), (Value.int .i64 s), (Value.bool false)] :: F) := (Holds.bring (Holds.bring H4_ 2 rfl) 2 rfl)
  refine S_list (T_call (al := [(Value.slice (some ⟨b, 0, none⟩) 17 18), (Value.int .u64 (IntKind.u64.wrap m))]) (pre := [cl b 5 (List.replicate 18 (.int .u8 0))]) (F := cl b2_ 82 [(Value.int .i64 m), (Value.int .i64 s), (Value.bool false)] :: F) rfl rfl cb65 (putUint64 R b 0 17 18 (List.replicate 18 (.int .u8 0)) (IntKind.u64.wrap m) (by omega) (by simp [put8_length]) (wrap_u64_nn _)) H8_ ?_)
  rintro v12_ p13_ w9_ ⟨rfl, rfl⟩ S11_ H10_
  replace H10_ : Holds w9_ (ro R :: cl b 5 (put8 (List.replicate 18 (.int .u8 0)) 0 (IntKind.u64.wrap m) 8) :: cl b2_ 82 [(Value.int .i64 m), (Value.int .i64 s), (Value.bool false)] :: F) := H10_
  have S14_ := Same.trans S6_ S11_
  refine wpList_nil ?_
  refine (X_then (hK7_ _ _ ?_))
  clear hK7_
  refine C_seq (fun K15_ hK15_ => ?_)
  refine C_reg ?_
  refine S_list (T_val (v := (Value.slice (some ⟨b, 0, none⟩) 17 18)) (x_move rfl) ?_)
  refine S_list (T_val (v := (Value.pointer (some ⟨b, 8, none⟩))) (x_indexAddr rfl rfl Try.underlying25 z5 (by omega) (by omega) (by omega : _ = 8) (by first | rfl | simp | (congr 1; omega))) ?_)
  refine S_list0 (T_store1 (v := (Value.int .u8 95)) rfl rfl z5 rfl H10_ 1 rfl (by simp [put8_length]) ?_)
  intro w16_ S18_ H17_
  replace H17_ : Holds w16_ (ro R :: cl b 5 ((put8 (List.replicate 18 (.int .u8 0)) 0 (IntKind.u64.wrap m) 8).set 8 (Value.int .u8 95)) :: cl b2_ 82 [(Value.int .i64 m), (Value.int .i64 s), (Value.bool false)] :: F) := H17_
  have S19_ := Same.trans S14_ S18_
  refine wpList_nil ?_
  refine (X_then (hK15_ _ _ ?_))
  clear hK15_
  refine C_seq (fun K20_ hK20_ => ?_)
  refine A_start (S := fun w => Rd b2_ [(Value.int .i64 m), (Value.int .i64 s), (Value.bool false)] w ∧ Sub R (hp w)) (N := 7) foll rfl rfl ?_
  have H22_ : Holds w16_.drew (ro R :: cl b 5 ((put8 (List.replicate 18 (.int .u8 0)) 0 (IntKind.u64.wrap m) 8).set 8 (Value.int .u8 95)) :: cl b2_ 82 [(Value.int .i64 m), (Value.int .i64 s), (Value.bool false)] :: F) := H17_
  refine A_take 0 (ls' := #[true, false, false, false, false, false, false]) (v := (Value.slice (some ⟨b, 0, none⟩) 17 18)) rfl (by kernel_rfl) (by kernel_rfl) (by kernel_rfl) (by kernel_rfl) (fun _ _ _ h => h) (fun w hS => x_move rfl) ⟨Holds.rd H22_ 2 rfl, Holds.ro_at H22_ 0 rfl⟩ ?_
  refine A_take 1 (ls' := #[true, true, false, false, false, false, false]) (v := (Value.slice (some ⟨b, 9, none⟩) 8 9)) rfl (by kernel_rfl) (by kernel_rfl) (by kernel_rfl) (by kernel_rfl) (fun _ _ _ h => h) (fun w hS => x_slice (l := 9) (h := 17) rfl Try.underlying25 z5 rfl ⟨_, _, rfl, by omega, by omega, by omega⟩ ((by rw [if_neg (by omega)]; first | rfl | simp [add_mk]))) ⟨Holds.rd H22_ 2 rfl, Holds.ro_at H22_ 0 rfl⟩ ?_
  refine A_take 2 (ls' := #[true, true, true, false, false, false, false]) (v := (Value.pointer (some ⟨b2_, 0, none⟩))) rfl (by kernel_rfl) (by kernel_rfl) (by kernel_rfl) (by kernel_rfl) (fun _ _ _ h => h) (fun w hS => by kernel_rfl) ⟨Holds.rd H22_ 2 rfl, Holds.ro_at H22_ 0 rfl⟩ ?_
  refine A_take 3 (ls' := #[true, true, true, true, false, false, false]) (v := (Value.pointer (some ⟨b2_, 1, none⟩))) rfl (by kernel_rfl) (by kernel_rfl) (by kernel_rfl) (by kernel_rfl) (fun _ _ _ h => h) (fun w hS => by kernel_rfl) ⟨Holds.rd H22_ 2 rfl, Holds.ro_at H22_ 0 rfl⟩ ?_
  refine A_take 4 (ls' := #[true, true, true, true, true, false, false]) (v := (Value.int .i64 s)) rfl (by kernel_rfl) (by kernel_rfl) (by kernel_rfl) (by kernel_rfl) (fun _ _ _ h => h) (fun w hS => x_load1 rfl Try.underlying2 rfl (hS.1 1 (Value.int .i64 s) rfl)) ⟨Holds.rd H22_ 2 rfl, Holds.ro_at H22_ 0 rfl⟩ ?_
  refine A_take 5 (ls' := #[true, true, true, true, true, true, false]) (v := (Value.int .u64 (IntKind.u64.wrap s))) rfl (by kernel_rfl) (by kernel_rfl) (by kernel_rfl) (by kernel_rfl) (fun _ _ _ h => h) (fun w hS => x_convI rfl Try.underlying2 Try.underlying64 rfl) ⟨Holds.rd H22_ 2 rfl, Holds.ro_at H22_ 0 rfl⟩ ?_
  refine A_ready (i := 6) (rs := []) (by kernel_rfl) ?_
  refine AllR.cons ?_ AllR.nil
  refine A_op (ls' := #[true, true, true, true, true, true, true]) rfl (by kernel_rfl) (T_call (al := [(Value.slice (some ⟨b, 9, none⟩) 8 9), (Value.int .u64 (IntKind.u64.wrap s))]) (pre := [cl b 5 ((put8 (List.replicate 18 (.int .u8 0)) 0 (IntKind.u64.wrap m) 8).set 8 (Value.int .u8 95))]) (F := cl b2_ 82 [(Value.int .i64 m), (Value.int .i64 s), (Value.bool false)] :: F) rfl rfl cb65 (putUint64 R b 9 8 9 ((put8 (List.replicate 18 (.int .u8 0)) 0 (IntKind.u64.wrap m) 8).set 8 (Value.int .u8 95)) (IntKind.u64.wrap s) (by omega) (by simp [put8_length]) (wrap_u64_nn _)) H22_ ?_)
  rintro v26_ p27_ w23_ ⟨rfl, rfl⟩ S25_ H24_
  replace H24_ : Holds w23_ (ro R :: cl b 5 (put8 ((put8 (List.replicate 18 (.int .u8 0)) 0 (IntKind.u64.wrap m) 8).set 8 (Value.int .u8 95)) 9 (IntKind.u64.wrap s) 8) :: cl b2_ 82 [(Value.int .i64 m), (Value.int .i64 s), (Value.bool false)] :: F) := H24_
  have S28_ := Same.trans (Same.trans S19_ (Same.drew _)) S25_
  refine ⟨⟨Holds.rd H24_ 2 rfl, Holds.ro_at H24_ 0 rfl⟩, ?_⟩
  refine A_done (by kernel_rfl) ?_
  refine (X_then (hK20_ _ _ ?_))
  clear hK20_
  refine C_seq (fun K29_ hK29_ => ?_)
  refine C_seq (fun K30_ hK30_ => ?_)
  refine C_reg ?_
  refine S_list (T_val (v := (Value.pointer (some ⟨b2_, 2, none⟩))) (by kernel_rfl) ?_)
  refine S_list (T_val (v := (Value.bool false)) (x_load1 rfl Try.underlying4 rfl ((Holds.rd H24_ 2 rfl) 2 (Value.bool false) rfl)) ?_)
  refine wpList_nil ?_
  refine (X_then (hK30_ _ _ ?_))
  clear hK30_
  refine C_condF rfl ?_
  refine C_skip (X_then (hK29_ _ _ ?_))
  clear hK29_
  refine C_seq (fun K31_ hK31_ => ?_)
  refine C_reg ?_
  refine S_list (T_val (v := (Value.slice (some ⟨b, 0, none⟩) 17 18)) (x_move rfl) ?_)
  refine S_list (T_val (v := (Value.slice (some ⟨b, 0, none⟩) 17 18)) (x_assign rfl) ?_)
  refine wpList_nil ?_
  refine (X_then (hK31_ _ _ ?_))
  clear hK31_
  refine C_ret ?_
  refine R_any (v := (Value.slice (some ⟨b, 0, none⟩) 17 18)) (run_results1 rfl rfl) ?_
  have H32_ : Holds w23_ (ro R :: cl b 5 ([] ++ (bytesV (rvb (IntKind.u64.wrap m) (IntKind.u64.wrap s))) ++ (bytesV [0])) :: cl b2_ 82 [(Value.int .i64 m), (Value.int .i64 s), (Value.bool false)] :: F) := cast1 (P := fun (c__ : List Value) => Holds w23_ (ro R :: cl b 5 c__ :: cl b2_ 82 [(Value.int .i64 m), (Value.int .i64 s), (Value.bool false)] :: F)) (by kernel_rfl : put8 ((put8 (List.replicate 18 (.int .u8 0)) 0 (IntKind.u64.wrap m) 8).set 8 (Value.int .u8 95)) 9 (IntKind.u64.wrap s) 8 = [] ++ (bytesV (rvb (IntKind.u64.wrap m) (IntKind.u64.wrap s))) ++ (bytesV [0])) H24_
  have H33_ : Holds w23_ (ro R :: sl 5 1 (Value.slice (some ⟨b, 0, none⟩) 17 18) 17 (bytesV (rvb (IntKind.u64.wrap m) (IntKind.u64.wrap s))) :: cl b2_ 82 [(Value.int .i64 m), (Value.int .i64 s), (Value.bool false)] :: F) := Holds.to_sl H32_ 1 [] (bytesV [0]) (xs := bytesV (rvb (IntKind.u64.wrap m) (IntKind.u64.wrap s))) (m := 17) (cap := 18) (sz := 1) rfl (by kernel_rfl) (by kernel_rfl) (by omega)
  have H34_ : Holds w23_ (ro R :: sl 5 1 (Value.slice (some ⟨b, 0, none⟩) 17 18) 17 (bytesV (rvb (IntKind.u64.wrap m) (IntKind.u64.wrap s))) :: F) := (Holds.erase (Holds.bring (Holds.bring H33_ 1 rfl) 1 rfl) 2)
  exact ⟨_, [sl 5 1 (Value.slice (some ⟨b, 0, none⟩) 17 18) 17 (bytesV (rvb (IntKind.u64.wrap m) (IntKind.u64.wrap s)))], rfl, rfl, S28_, H34_⟩

set_option maxHeartbeats 400000 in
theorem bk18f (R : HP) (b : Nat) (m s : Int) :
    Tri Try.prog 45 #[(Value.agg #[(Value.int .i64 m), (Value.int .i64 s), (Value.bool false)]), (Value.slice (some ⟨b, 0, none⟩) 18 18)] R [cl b 5 (List.replicate 18 (.int .u8 0))] (fun v post => post = [sl 5 1 v 18 (bytesV (rvb (IntKind.u64.wrap m) (IntKind.u64.wrap s) ++ [0]))]) := by
  refine Tri.into (n := 34) (al := [(Value.agg #[(Value.int .i64 m), (Value.int .i64 s), (Value.bool false)]), (Value.slice (some ⟨b, 0, none⟩) 18 18)]) Try.func45 rfl Try.ntmps45 rfl rfl fun w F H => ?_
  replace H : Holds w (ro R :: cl b 5 (List.replicate 18 (.int .u8 0)) :: F) := H
  refine C_seq (fun K1_ hK1_ => ?_)
  refine C_reg ?_
  refine S_list (T_box (v := (Value.agg #[(Value.int .i64 m), (Value.int .i64 s), (Value.bool false)])) rfl H ?_)
  intro b2_ w3_ S5_ H4_
  replace H4_ : Holds w3_ (cl b2_ 82 [(Value.int .i64 m), (Value.int .i64 s), (Value.bool false)] :: ro R :: cl b 5 (List.replicate 18 (.int .u8 0)) :: F) := H4_
  have S6_ := Same.trans (Same.refl w) S5_
  refine S_list (T_val (v := (Value.slice none 0 0)) (x_assign rfl) ?_)
  refine wpList_nil ?_
  refine (X_then (hK1_ _ _ ?_))
  clear hK1_
  refine C_seq (fun K7_ hK7_ => ?_)
  refine C_reg ?_
  refine S_list (T_val (v := (Value.slice (some ⟨b, 0, none⟩) 18 18)) (x_move rfl) ?_)
  refine S_list (T_val (v := (Value.pointer (some ⟨b2_, 0, none⟩))) (by kernel_rfl) ?_)
  refine S_list (T_val (v := (Value.pointer (some ⟨b2_, 0, none⟩))) (by kernel_rfl) ?_)
  refine S_list (T_val (v := (Value.int .i64 m)) (x_load1 rfl Try.underlying2 rfl ((Holds.rd H4_ 0 rfl) 0 (Value.int .i64 m) rfl)) ?_)
  refine S_list (T_val (v := (Value.int .u64 (IntKind.u64.wrap m))) (x_convI rfl Try.underlying2 Try.underlying64 rfl) ?_)
  have H8_ : Holds w3_ (ro R :: cl b 5 (List.replicate 18 (.int .u8 0)) :: cl b2_ 82 [(Value.int .i64 m), (Value.int .i64 s), (Value.bool false)] :: F) := (Holds.bring (Holds.bring H4_ 2 rfl) 2 rfl)
  refine S_list (T_call (al := [(Value.slice (some ⟨b, 0, none⟩) 18 18), (Value.int .u64 (IntKind.u64.wrap m))]) (pre := [cl b 5 (List.replicate 18 (.int .u8 0))]) (F := cl b2_ 82 [(Value.int .i64 m), (Value.int .i64 s), (Value.bool false)] :: F) rfl rfl cb65 (putUint64 R b 0 18 18 (List.replicate 18 (.int .u8 0)) (IntKind.u64.wrap m) (by omega) (by simp [put8_length]) (wrap_u64_nn _)) H8_ ?_)
  rintro v12_ p13_ w9_ ⟨rfl, rfl⟩ S11_ H10_
  replace H10_ : Holds w9_ (ro R :: cl b 5 (put8 (List.replicate 18 (.int .u8 0)) 0 (IntKind.u64.wrap m) 8) :: cl b2_ 82 [(Value.int .i64 m), (Value.int .i64 s), (Value.bool false)] :: F) := H10_
  have S14_ := Same.trans S6_ S11_
  refine wpList_nil ?_
  refine (X_then (hK7_ _ _ ?_))
  clear hK7_
  refine C_seq (fun K15_ hK15_ => ?_)
  refine C_reg ?_
  refine S_list (T_val (v := (Value.slice (some ⟨b, 0, none⟩) 18 18)) (x_move rfl) ?_)
  refine S_list (T_val (v := (Value.pointer (some ⟨b, 8, none⟩))) (x_indexAddr rfl rfl Try.underlying25 z5 (by omega) (by omega) (by omega : _ = 8) (by first | rfl | simp | (congr 1; omega))) ?_)
  refine S_list0 (T_store1 (v := (Value.int .u8 95)) rfl rfl z5 rfl H10_ 1 rfl (by simp [put8_length]) ?_)
  intro w16_ S18_ H17_
  replace H17_ : Holds w16_ (ro R :: cl b 5 ((put8 (List.replicate 18 (.int .u8 0)) 0 (IntKind.u64.wrap m) 8).set 8 (Value.int .u8 95)) :: cl b2_ 82 [(Value.int .i64 m), (Value.int .i64 s), (Value.bool false)] :: F) := H17_
  have S19_ := Same.trans S14_ S18_
  refine wpList_nil ?_
  refine (X_then (hK15_ _ _ ?_))
  clear hK15_
  refine C_seq (fun K20_ hK20_ => ?_)
  refine A_start (S := fun w => Rd b2_ [(Value.int .i64 m), (Value.int .i64 s), (Value.bool false)] w ∧ Sub R (hp w)) (N := 7) foll rfl rfl ?_
  have H22_ : Holds w16_.drew (ro R :: cl b 5 ((put8 (List.replicate 18 (.int .u8 0)) 0 (IntKind.u64.wrap m) 8).set 8 (Value.int .u8 95)) :: cl b2_ 82 [(Value.int .i64 m), (Value.int .i64 s), (Value.bool false)] :: F) := H17_
  refine A_take 0 (ls' := #[true, false, false, false, false, false, false]) (v := (Value.slice (some ⟨b, 0, none⟩) 18 18)) rfl (by kernel_rfl) (by kernel_rfl) (by kernel_rfl) (by kernel_rfl) (fun _ _ _ h => h) (fun w hS => x_move rfl) ⟨Holds.rd H22_ 2 rfl, Holds.ro_at H22_ 0 rfl⟩ ?_
  refine A_take 1 (ls' := #[true, true, false, false, false, false, false]) (v := (Value.slice (some ⟨b, 9, none⟩) 9 9)) rfl (by kernel_rfl) (by kernel_rfl) (by kernel_rfl) (by kernel_rfl) (fun _ _ _ h => h) (fun w hS => x_slice (l := 9) (h := 18) rfl Try.underlying25 z5 rfl ⟨_, _, rfl, by omega, by omega, by omega⟩ ((by rw [if_neg (by omega)]; first | rfl | simp [add_mk]))) ⟨Holds.rd H22_ 2 rfl, Holds.ro_at H22_ 0 rfl⟩ ?_
  refine A_take 2 (ls' := #[true, true, true, false, false, false, false]) (v := (Value.pointer (some ⟨b2_, 0, none⟩))) rfl (by kernel_rfl) (by kernel_rfl) (by kernel_rfl) (by kernel_rfl) (fun _ _ _ h => h) (fun w hS => by kernel_rfl) ⟨Holds.rd H22_ 2 rfl, Holds.ro_at H22_ 0 rfl⟩ ?_
  refine A_take 3 (ls' := #[true, true, true, true, false, false, false]) (v := (Value.pointer (some ⟨b2_, 1, none⟩))) rfl (by kernel_rfl) (by kernel_rfl) (by kernel_rfl) (by kernel_rfl) (fun _ _ _ h => h) (fun w hS => by kernel_rfl) ⟨Holds.rd H22_ 2 rfl, Holds.ro_at H22_ 0 rfl⟩ ?_
  refine A_take 4 (ls' := #[true, true, true, true, true, false, false]) (v := (Value.int .i64 s)) rfl (by kernel_rfl) (by kernel_rfl) (by kernel_rfl) (by kernel_rfl) (fun _ _ _ h => h) (fun w hS => x_load1 rfl Try.underlying2 rfl (hS.1 1 (Value.int .i64 s) rfl)) ⟨Holds.rd H22_ 2 rfl, Holds.ro_at H22_ 0 rfl⟩ ?_
  refine A_take 5 (ls' := #[true, true, true, true, true, true, false]) (v := (Value.int .u64 (IntKind.u64.wrap s))) rfl (by kernel_rfl) (by kernel_rfl) (by kernel_rfl) (by kernel_rfl) (fun _ _ _ h => h) (fun w hS => x_convI rfl Try.underlying2 Try.underlying64 rfl) ⟨Holds.rd H22_ 2 rfl, Holds.ro_at H22_ 0 rfl⟩ ?_
  refine A_ready (i := 6) (rs := []) (by kernel_rfl) ?_
  refine AllR.cons ?_ AllR.nil
  refine A_op (ls' := #[true, true, true, true, true, true, true]) rfl (by kernel_rfl) (T_call (al := [(Value.slice (some ⟨b, 9, none⟩) 9 9), (Value.int .u64 (IntKind.u64.wrap s))]) (pre := [cl b 5 ((put8 (List.replicate 18 (.int .u8 0)) 0 (IntKind.u64.wrap m) 8).set 8 (Value.int .u8 95))]) (F := cl b2_ 82 [(Value.int .i64 m), (Value.int .i64 s), (Value.bool false)] :: F) rfl rfl cb65 (putUint64 R b 9 9 9 ((put8 (List.replicate 18 (.int .u8 0)) 0 (IntKind.u64.wrap m) 8).set 8 (Value.int .u8 95)) (IntKind.u64.wrap s) (by omega) (by simp [put8_length]) (wrap_u64_nn _)) H22_ ?_)
  rintro v26_ p27_ w23_ ⟨rfl, rfl⟩ S25_ H24_
  replace H24_ : Holds w23_ (ro R :: cl b 5 (put8 ((put8 (List.replicate 18 (.int .u8 0)) 0 (IntKind.u64.wrap m) 8).set 8 (Value.int .u8 95)) 9 (IntKind.u64.wrap s) 8) :: cl b2_ 82 [(Value.int .i64 m), (Value.int .i64 s), (Value.bool false)] :: F) := H24_
  have S28_ := Same.trans (Same.trans S19_ (Same.drew _)) S25_
  refine ⟨⟨Holds.rd H24_ 2 rfl, Holds.ro_at H24_ 0 rfl⟩, ?_⟩
  refine A_done (by kernel_rfl) ?_
  refine (X_then (hK20_ _ _ ?_))
  clear hK20_
  refine C_seq (fun K29_ hK29_ => ?_)
  refine C_seq (fun K30_ hK30_ => ?_)
  refine C_reg ?_
  refine S_list (T_val (v := (Value.pointer (some ⟨b2_, 2, none⟩))) (by kernel_rfl) ?_)
  refine S_list (T_val (v := (Value.bool false)) (x_load1 rfl Try.underlying4 rfl ((Holds.rd H24_ 2 rfl) 2 (Value.bool false) rfl)) ?_)
  refine wpList_nil ?_
  refine (X_then (hK30_ _ _ ?_))
  clear hK30_
  refine C_condF rfl ?_
  refine C_skip (X_then (hK29_ _ _ ?_))
  clear hK29_
  refine C_seq (fun K31_ hK31_ => ?_)
  refine C_reg ?_
  refine S_list (T_val (v := (Value.slice (some ⟨b, 0, none⟩) 18 18)) (x_move rfl) ?_)
  refine S_list (T_val (v := (Value.slice (some ⟨b, 0, none⟩) 18 18)) (x_assign rfl) ?_)
  refine wpList_nil ?_
  refine (X_then (hK31_ _ _ ?_))
  clear hK31_
  refine C_ret ?_
  refine R_any (v := (Value.slice (some ⟨b, 0, none⟩) 18 18)) (run_results1 rfl rfl) ?_
  have H32_ : Holds w23_ (ro R :: cl b 5 ([] ++ (bytesV (rvb (IntKind.u64.wrap m) (IntKind.u64.wrap s) ++ [0])) ++ []) :: cl b2_ 82 [(Value.int .i64 m), (Value.int .i64 s), (Value.bool false)] :: F) := cast1 (P := fun (c__ : List Value) => Holds w23_ (ro R :: cl b 5 c__ :: cl b2_ 82 [(Value.int .i64 m), (Value.int .i64 s), (Value.bool false)] :: F)) (by kernel_rfl : put8 ((put8 (List.replicate 18 (.int .u8 0)) 0 (IntKind.u64.wrap m) 8).set 8 (Value.int .u8 95)) 9 (IntKind.u64.wrap s) 8 = [] ++ (bytesV (rvb (IntKind.u64.wrap m) (IntKind.u64.wrap s) ++ [0])) ++ []) H24_
  have H33_ : Holds w23_ (ro R :: sl 5 1 (Value.slice (some ⟨b, 0, none⟩) 18 18) 18 (bytesV (rvb (IntKind.u64.wrap m) (IntKind.u64.wrap s) ++ [0])) :: cl b2_ 82 [(Value.int .i64 m), (Value.int .i64 s), (Value.bool false)] :: F) := Holds.to_sl H32_ 1 [] [] (xs := bytesV (rvb (IntKind.u64.wrap m) (IntKind.u64.wrap s) ++ [0])) (m := 18) (cap := 18) (sz := 1) rfl (by kernel_rfl) (by kernel_rfl) (by omega)
  have H34_ : Holds w23_ (ro R :: sl 5 1 (Value.slice (some ⟨b, 0, none⟩) 18 18) 18 (bytesV (rvb (IntKind.u64.wrap m) (IntKind.u64.wrap s) ++ [0])) :: F) := (Holds.erase (Holds.bring (Holds.bring H33_ 1 rfl) 1 rfl) 2)
  exact ⟨_, [sl 5 1 (Value.slice (some ⟨b, 0, none⟩) 18 18) 18 (bytesV (rvb (IntKind.u64.wrap m) (IntKind.u64.wrap s) ++ [0]))], rfl, rfl, S28_, H34_⟩

set_option maxHeartbeats 400000 in
theorem bk18t (R : HP) (b : Nat) (m s : Int) :
    Tri Try.prog 45 #[(Value.agg #[(Value.int .i64 m), (Value.int .i64 s), (Value.bool true)]), (Value.slice (some ⟨b, 0, none⟩) 18 18)] R [cl b 5 (List.replicate 18 (.int .u8 0))] (fun v post => post = [sl 5 1 v 18 (bytesV (rvb (IntKind.u64.wrap m) (IntKind.u64.wrap s) ++ [116]))]) := by
  refine Tri.into (n := 34) (al := [(Value.agg #[(Value.int .i64 m), (Value.int .i64 s), (Value.bool true)]), (Value.slice (some ⟨b, 0, none⟩) 18 18)]) Try.func45 rfl Try.ntmps45 rfl rfl fun w F H => ?_
  replace H : Holds w (ro R :: cl b 5 (List.replicate 18 (.int .u8 0)) :: F) := H
  refine C_seq (fun K1_ hK1_ => ?_)
  refine C_reg ?_
  refine S_list (T_box (v := (Value.agg #[(Value.int .i64 m), (Value.int .i64 s), (Value.bool true)])) rfl H ?_)
  intro b2_ w3_ S5_ H4_
  replace H4_ : Holds w3_ (cl b2_ 82 [(Value.int .i64 m), (Value.int .i64 s), (Value.bool true)] :: ro R :: cl b 5 (List.replicate 18 (.int .u8 0)) :: F) := H4_
  have S6_ := Same.trans (Same.refl w) S5_
  refine S_list (T_val (v := (Value.slice none 0 0)) (x_assign rfl) ?_)
  refine wpList_nil ?_
  refine (X_then (hK1_ _ _ ?_))
  clear hK1_
  refine C_seq (fun K7_ hK7_ => ?_)
  refine C_reg ?_
  refine S_list (T_val (v := (Value.slice (some ⟨b, 0, none⟩) 18 18)) (x_move rfl) ?_)
  refine S_list (T_val (v := (Value.pointer (some ⟨b2_, 0, none⟩))) (by kernel_rfl) ?_)
  refine S_list (T_val (v := (Value.pointer (some ⟨b2_, 0, none⟩))) (by kernel_rfl) ?_)
  refine S_list (T_val (v := (Value.int .i64 m)) (x_load1 rfl Try.underlying2 rfl ((Holds.rd H4_ 0 rfl) 0 (Value.int .i64 m) rfl)) ?_)
  refine S_list (T_val (v := (Value.int .u64 (IntKind.u64.wrap m))) (x_convI rfl Try.underlying2 Try.underlying64 rfl) ?_)
  have H8_ : Holds w3_ (ro R :: cl b 5 (List.replicate 18 (.int .u8 0)) :: cl b2_ 82 [(Value.int .i64 m), (Value.int .i64 s), (Value.bool true)] :: F) := (Holds.bring (Holds.bring H4_ 2 rfl) 2 rfl)
  refine S_list (T_call (al := [(Value.slice (some ⟨b, 0, none⟩) 18 18), (Value.int .u64 (IntKind.u64.wrap m))]) (pre := [cl b 5 (List.replicate 18 (.int .u8 0))]) (F := cl b2_ 82 [(Value.int .i64 m), (Value.int .i64 s), (Value.bool true)] :: F) rfl rfl cb65 (putUint64 R b 0 18 18 (List.replicate 18 (.int .u8 0)) (IntKind.u64.wrap m) (by omega) (by simp [put8_length]) (wrap_u64_nn _)) H8_ ?_)
  rintro v12_ p13_ w9_ ⟨rfl, rfl⟩ S11_ H10_
  replace H10_ : Holds w9_ (ro R :: cl b 5 (put8 (List.replicate 18 (.int .u8 0)) 0 (IntKind.u64.wrap m) 8) :: cl b2_ 82 [(Value.int .i64 m), (Value.int .i64 s), (Value.bool true)] :: F) := H10_
  have S14_ := Same.trans S6_ S11_
  refine wpList_nil ?_
  refine (X_then (hK7_ _ _ ?_))
  clear hK7_
  refine C_seq (fun K15_ hK15_ => ?_)
  refine C_reg ?_
  refine S_list (T_val (v := (Value.slice (some ⟨b, 0, none⟩) 18 18)) (x_move rfl) ?_)
  refine S_list (T_val (v := (Value.pointer (some ⟨b, 8, none⟩))) (x_indexAddr rfl rfl Try.underlying25 z5 (by omega) (by omega) (by omega : _ = 8) (by first | rfl | simp | (congr 1; omega))) ?_)
  refine S_list0 (T_store1 (v := (Value.int .u8 95)) rfl rfl z5 rfl H10_ 1 rfl (by simp [put8_length]) ?_)
  intro w16_ S18_ H17_
  replace H17_ : Holds w16_ (ro R :: cl b 5 ((put8 (List.replicate 18 (.int .u8 0)) 0 (IntKind.u64.wrap m) 8).set 8 (Value.int .u8 95)) :: cl b2_ 82 [(Value.int .i64 m), (Value.int .i64 s), (Value.bool true)] :: F) := H17_
  have S19_ := Same.trans S14_ S18_
  refine wpList_nil ?_
  refine (X_then (hK15_ _ _ ?_))
  clear hK15_
  refine C_seq (fun K20_ hK20_ => ?_)
  refine A_start (S := fun w => Rd b2_ [(Value.int .i64 m), (Value.int .i64 s), (Value.bool true)] w ∧ Sub R (hp w)) (N := 7) foll rfl rfl ?_
  have H22_ : Holds w16_.drew (ro R :: cl b 5 ((put8 (List.replicate 18 (.int .u8 0)) 0 (IntKind.u64.wrap m) 8).set 8 (Value.int .u8 95)) :: cl b2_ 82 [(Value.int .i64 m), (Value.int .i64 s), (Value.bool true)] :: F) := H17_
  refine A_take 0 (ls' := #[true, false, false, false, false, false, false]) (v := (Value.slice (some ⟨b, 0, none⟩) 18 18)) rfl (by kernel_rfl) (by kernel_rfl) (by kernel_rfl) (by kernel_rfl) (fun _ _ _ h => h) (fun w hS => x_move rfl) ⟨Holds.rd H22_ 2 rfl, Holds.ro_at H22_ 0 rfl⟩ ?_
  refine A_take 1 (ls' := #[true, true, false, false, false, false, false]) (v := (Value.slice (some ⟨b, 9, none⟩) 9 9)) rfl (by kernel_rfl) (by kernel_rfl) (by kernel_rfl) (by kernel_rfl) (fun _ _ _ h => h) (fun w hS => x_slice (l := 9) (h := 18) rfl Try.underlying25 z5 rfl ⟨_, _, rfl, by omega, by omega, by omega⟩ ((by rw [if_neg (by omega)]; first | rfl | simp [add_mk]))) ⟨Holds.rd H22_ 2 rfl, Holds.ro_at H22_ 0 rfl⟩ ?_
  refine A_take 2 (ls' := #[true, true, true, false, false, false, false]) (v := (Value.pointer (some ⟨b2_, 0, none⟩))) rfl (by kernel_rfl) (by kernel_rfl) (by kernel_rfl) (by kernel_rfl) (fun _ _ _ h => h) (fun w hS => by kernel_rfl) ⟨Holds.rd H22_ 2 rfl, Holds.ro_at H22_ 0 rfl⟩ ?_
  refine A_take 3 (ls' := #[true, true, true, true, false, false, false]) (v := (Value.pointer (some ⟨b2_, 1, none⟩))) rfl (by kernel_rfl) (by kernel_rfl) (by kernel_rfl) (by kernel_rfl) (fun _ _ _ h => h) (fun w hS => by kernel_rfl) ⟨Holds.rd H22_ 2 rfl, Holds.ro_at H22_ 0 rfl⟩ ?_
  refine A_take 4 (ls' := #[true, true, true, true, true, false, false]) (v := (Value.int .i64 s)) rfl (by kernel_rfl) (by kernel_rfl) (by kernel_rfl) (by kernel_rfl) (fun _ _ _ h => h) (fun w hS => x_load1 rfl Try.underlying2 rfl (hS.1 1 (Value.int .i64 s) rfl)) ⟨Holds.rd H22_ 2 rfl, Holds.ro_at H22_ 0 rfl⟩ ?_
  refine A_take 5 (ls' := #[true, true, true, true, true, true, false]) (v := (Value.int .u64 (IntKind.u64.wrap s))) rfl (by kernel_rfl) (by kernel_rfl) (by kernel_rfl) (by kernel_rfl) (fun _ _ _ h => h) (fun w hS => x_convI rfl Try.underlying2 Try.underlying64 rfl) ⟨Holds.rd H22_ 2 rfl, Holds.ro_at H22_ 0 rfl⟩ ?_
  refine A_ready (i := 6) (rs := []) (by kernel_rfl) ?_
  refine AllR.cons ?_ AllR.nil
  refine A_op (ls' := #[true, true, true, true, true, true, true]) rfl (by kernel_rfl) (T_call (al := [(Value.slice (some ⟨b, 9, none⟩) 9 9), (Value.int .u64 (IntKind.u64.wrap s))]) (pre := [cl b 5 ((put8 (List.replicate 18 (.int .u8 0)) 0 (IntKind.u64.wrap m) 8).set 8 (Value.int .u8 95))]) (F := cl b2_ 82 [(Value.int .i64 m), (Value.int .i64 s), (Value.bool true)] :: F) rfl rfl cb65 (putUint64 R b 9 9 9 ((put8 (List.replicate 18 (.int .u8 0)) 0 (IntKind.u64.wrap m) 8).set 8 (Value.int .u8 95)) (IntKind.u64.wrap s) (by omega) (by simp [put8_length]) (wrap_u64_nn _)) H22_ ?_)
  rintro v26_ p27_ w23_ ⟨rfl, rfl⟩ S25_ H24_
  replace H24_ : Holds w23_ (ro R :: cl b 5 (put8 ((put8 (List.replicate 18 (.int .u8 0)) 0 (IntKind.u64.wrap m) 8).set 8 (Value.int .u8 95)) 9 (IntKind.u64.wrap s) 8) :: cl b2_ 82 [(Value.int .i64 m), (Value.int .i64 s), (Value.bool true)] :: F) := H24_
  have S28_ := Same.trans (Same.trans S19_ (Same.drew _)) S25_
  refine ⟨⟨Holds.rd H24_ 2 rfl, Holds.ro_at H24_ 0 rfl⟩, ?_⟩
  refine A_done (by kernel_rfl) ?_
  refine (X_then (hK20_ _ _ ?_))
  clear hK20_
  refine C_seq (fun K29_ hK29_ => ?_)
  refine C_seq (fun K30_ hK30_ => ?_)
  refine C_reg ?_
  refine S_list (T_val (v := (Value.pointer (some ⟨b2_, 2, none⟩))) (by kernel_rfl) ?_)
  refine S_list (T_val (v := (Value.bool true)) (x_load1 rfl Try.underlying4 rfl ((Holds.rd H24_ 2 rfl) 2 (Value.bool true) rfl)) ?_)
  refine wpList_nil ?_
  refine (X_then (hK30_ _ _ ?_))
  clear hK30_
  refine C_condT rfl ?_
  refine C_seq (fun K31_ hK31_ => ?_)
  refine C_reg ?_
  refine S_list (T_val (v := (Value.slice (some ⟨b, 0, none⟩) 18 18)) (x_move rfl) ?_)
  refine S_list (T_val (v := (Value.int .i64 18)) (x_lenS rfl Try.underlying25) ?_)
  refine wpList_nil ?_
  refine (X_then (hK31_ _ _ ?_))
  clear hK31_
  refine C_block ?_
  refine C_seq (fun K32_ hK32_ => ?_)
  refine C_reg ?_
  refine S_list (T_val (v := (Value.bool false)) (x_bin rfl rfl rfl) ?_)
  refine S_list (T_val (v := (Value.bool false)) (x_assign rfl) ?_)
  refine wpList_nil ?_
  refine (X_then (hK32_ _ _ ?_))
  clear hK32_
  refine C_condF rfl ?_
  refine C_seq (fun K33_ hK33_ => ?_)
  refine C_reg ?_
  refine S_list (T_val (v := (Value.bool true)) (x_bin rfl rfl rfl) ?_)
  refine S_list (T_val (v := (Value.bool true)) (x_assign rfl) ?_)
  refine wpList_nil ?_
  refine (X_then (hK33_ _ _ ?_))
  clear hK33_
  refine C_condT rfl ?_
  refine C_reg ?_
  refine S_list (T_val (v := (Value.slice (some ⟨b, 0, none⟩) 18 18)) (x_move rfl) ?_)
  refine S_list (T_val (v := (Value.pointer (some ⟨b, 17, none⟩))) (x_indexAddr rfl rfl Try.underlying25 z5 (by omega) (by omega) (by omega : _ = 17) (by first | rfl | simp | (congr 1; omega))) ?_)
  refine S_list0 (T_store1 (v := (Value.int .u8 116)) rfl rfl z5 rfl H24_ 1 rfl (by simp [put8_length]) ?_)
  intro w34_ S36_ H35_
  replace H35_ : Holds w34_ (ro R :: cl b 5 ((put8 ((put8 (List.replicate 18 (.int .u8 0)) 0 (IntKind.u64.wrap m) 8).set 8 (Value.int .u8 95)) 9 (IntKind.u64.wrap s) 8).set 17 (Value.int .u8 116)) :: cl b2_ 82 [(Value.int .i64 m), (Value.int .i64 s), (Value.bool true)] :: F) := H35_
  have S37_ := Same.trans S28_ S36_
  refine wpList_nil ?_
  refine (X_blkN (X_then (hK29_ _ _ ?_)))
  clear hK29_
  refine C_seq (fun K38_ hK38_ => ?_)
  refine C_reg ?_
  refine S_list (T_val (v := (Value.slice (some ⟨b, 0, none⟩) 18 18)) (x_move rfl) ?_)
  refine S_list (T_val (v := (Value.slice (some ⟨b, 0, none⟩) 18 18)) (x_assign rfl) ?_)
  refine wpList_nil ?_
  refine (X_then (hK38_ _ _ ?_))
  clear hK38_
  refine C_ret ?_
  refine R_any (v := (Value.slice (some ⟨b, 0, none⟩) 18 18)) (run_results1 rfl rfl) ?_
  have H39_ : Holds w34_ (ro R :: cl b 5 ([] ++ (bytesV (rvb (IntKind.u64.wrap m) (IntKind.u64.wrap s) ++ [116])) ++ []) :: cl b2_ 82 [(Value.int .i64 m), (Value.int .i64 s), (Value.bool true)] :: F) := cast1 (P := fun (c__ : List Value) => Holds w34_ (ro R :: cl b 5 c__ :: cl b2_ 82 [(Value.int .i64 m), (Value.int .i64 s), (Value.bool true)] :: F)) (by kernel_rfl : (put8 ((put8 (List.replicate 18 (.int .u8 0)) 0 (IntKind.u64.wrap m) 8).set 8 (Value.int .u8 95)) 9 (IntKind.u64.wrap s) 8).set 17 (Value.int .u8 116) = [] ++ (bytesV (rvb (IntKind.u64.wrap m) (IntKind.u64.wrap s) ++ [116])) ++ []) H35_
  have H40_ : Holds w34_ (ro R :: sl 5 1 (Value.slice (some ⟨b, 0, none⟩) 18 18) 18 (bytesV (rvb (IntKind.u64.wrap m) (IntKind.u64.wrap s) ++ [116])) :: cl b2_ 82 [(Value.int .i64 m), (Value.int .i64 s), (Value.bool true)] :: F) := Holds.to_sl H39_ 1 [] [] (xs := bytesV (rvb (IntKind.u64.wrap m) (IntKind.u64.wrap s) ++ [116])) (m := 18) (cap := 18) (sz := 1) rfl (by kernel_rfl) (by kernel_rfl) (by omega)
  have H41_ : Holds w34_ (ro R :: sl 5 1 (Value.slice (some ⟨b, 0, none⟩) 18 18) 18 (bytesV (rvb (IntKind.u64.wrap m) (IntKind.u64.wrap s) ++ [116])) :: F) := (Holds.erase (Holds.bring (Holds.bring H40_ 1 rfl) 1 rfl) 2)
  exact ⟨_, [sl 5 1 (Value.slice (some ⟨b, 0, none⟩) 18 18) 18 (bytesV (rvb (IntKind.u64.wrap m) (IntKind.u64.wrap s) ++ [116]))], rfl, rfl, S37_, H41_⟩

set_option maxHeartbeats 400000 in
theorem bk17t (R : HP) (b : Nat) (m s : Int) :
    Tri Try.prog 45 #[(Value.agg #[(Value.int .i64 m), (Value.int .i64 s), (Value.bool true)]), (Value.slice (some ⟨b, 0, none⟩) 17 18)] R [cl b 5 (List.replicate 18 (.int .u8 0))] (fun v post => post = [sl 5 1 v 18 (bytesV (rvb (IntKind.u64.wrap m) (IntKind.u64.wrap s) ++ [116]))]) := by
  refine Tri.into (n := 34) (al := [(Value.agg #[(Value.int .i64 m), (Value.int .i64 s), (Value.bool true)]), (Value.slice (some ⟨b, 0, none⟩) 17 18)]) Try.func45 rfl Try.ntmps45 rfl rfl fun w F H => ?_
  replace H : Holds w (ro R :: cl b 5 (List.replicate 18 (.int .u8 0)) :: F) := H
  refine C_seq (fun K1_ hK1_ => ?_)
  refine C_reg ?_
  refine S_list (T_box (v := (Value.agg #[(Value.int .i64 m), (Value.int .i64 s), (Value.bool true)])) rfl H ?_)
  intro b2_ w3_ S5_ H4_
  replace H4_ : Holds w3_ (cl b2_ 82 [(Value.int .i64 m), (Value.int .i64 s), (Value.bool true)] :: ro R :: cl b 5 (List.replicate 18 (.int .u8 0)) :: F) := H4_
  have S6_ := Same.trans (Same.refl w) S5_
  refine S_list (T_val (v := (Value.slice none 0 0)) (x_assign rfl) ?_)
  refine wpList_nil ?_
  refine (X_then (hK1_ _ _ ?_))
  clear hK1_
  refine C_seq (fun K7_ hK7_ => ?_)
  refine C_reg ?_
  refine S_list (T_val (v := (Value.slice (some ⟨b, 0, none⟩) 17 18)) (x_move rfl) ?_)
  refine S_list (T_val (v := (Value.pointer (some ⟨b2_, 0, none⟩))) (by kernel_rfl) ?_)
  refine S_list (T_val (v := (Value.pointer (some ⟨b2_, 0, none⟩))) (by kernel_rfl) ?_)
  refine S_list (T_val (v := (Value.int .i64 m)) (x_load1 rfl Try.underlying2 rfl ((Holds.rd H4_ 0 rfl) 0 (Value.int .i64 m) rfl)) ?_)
  refine S_list (T_val (v := (Value.int .u64 (IntKind.u64.wrap m))) (x_convI rfl Try.underlying2 Try.underlying64 rfl) ?_)
  have H8_ : Holds w3_ (ro R :: cl b 5 (List.replicate 18 (.int .u8 0)) :: cl b2_ 82 [(Value.int .i64 m), (Value.int .i64 s), (Value.bool true)] :: F) := (Holds.bring (Holds.bring H4_ 2 rfl) 2 rfl)
  refine S_list (T_call (al := [(Value.slice (some ⟨b, 0, none⟩) 17 18), (Value.int .u64 (IntKind.u64.wrap m))]) (pre := [cl b 5 (List.replicate 18 (.int .u8 0))]) (F := cl b2_ 82 [(Value.int .i64 m), (Value.int .i64 s), (Value.bool true)] :: F) rfl rfl cb65 (putUint64 R b 0 17 18 (List.replicate 18 (.int .u8 0)) (IntKind.u64.wrap m) (by omega) (by simp [put8_length]) (wrap_u64_nn _)) H8_ ?_)
  rintro v12_ p13_ w9_ ⟨rfl, rfl⟩ S11_ H10_
  replace H10_ : Holds w9_ (ro R :: cl b 5 (put8 (List.replicate 18 (.int .u8 0)) 0 (IntKind.u64.wrap m) 8) :: cl b2_ 82 [(Value.int .i64 m), (Value.int .i64 s), (Value.bool true)] :: F) := H10_
  have S14_ := Same.trans S6_ S11_
  refine wpList_nil ?_
  refine (X_then (hK7_ _ _ ?_))
  clear hK7_
  refine C_seq (fun K15_ hK15_ => ?_)
  refine C_reg ?_
  refine S_list (T_val (v := (Value.slice (some ⟨b, 0, none⟩) 17 18)) (x_move rfl) ?_)
  refine S_list (T_val (v := (Value.pointer (some ⟨b, 8, none⟩))) (x_indexAddr rfl rfl Try.underlying25 z5 (by omega) (by omega) (by omega : _ = 8) (by first | rfl | simp | (congr 1; omega))) ?_)
  refine S_list0 (T_store1 (v := (Value.int .u8 95)) rfl rfl z5 rfl H10_ 1 rfl (by simp [put8_length]) ?_)
  intro w16_ S18_ H17_
  replace H17_ : Holds w16_ (ro R :: cl b 5 ((put8 (List.replicate 18 (.int .u8 0)) 0 (IntKind.u64.wrap m) 8).set 8 (Value.int .u8 95)) :: cl b2_ 82 [(Value.int .i64 m), (Value.int .i64 s), (Value.bool true)] :: F) := H17_
  have S19_ := Same.trans S14_ S18_
  refine wpList_nil ?_
  refine (X_then (hK15_ _ _ ?_))
  clear hK15_
  refine C_seq (fun K20_ hK20_ => ?_)
  refine A_start (S := fun w => Rd b2_ [(Value.int .i64 m), (Value.int .i64 s), (Value.bool true)] w ∧ Sub R (hp w)) (N := 7) foll rfl rfl ?_
  have H22_ : Holds w16_.drew (ro R :: cl b 5 ((put8 (List.replicate 18 (.int .u8 0)) 0 (IntKind.u64.wrap m) 8).set 8 (Value.int .u8 95)) :: cl b2_ 82 [(Value.int .i64 m), (Value.int .i64 s), (Value.bool true)] :: F) := H17_
  refine A_take 0 (ls' := #[true, false, false, false, false, false, false]) (v := (Value.slice (some ⟨b, 0, none⟩) 17 18)) rfl (by kernel_rfl) (by kernel_rfl) (by kernel_rfl) (by kernel_rfl) (fun _ _ _ h => h) (fun w hS => x_move rfl) ⟨Holds.rd H22_ 2 rfl, Holds.ro_at H22_ 0 rfl⟩ ?_
  refine A_take 1 (ls' := #[true, true, false, false, false, false, false]) (v := (Value.slice (some ⟨b, 9, none⟩) 8 9)) rfl (by kernel_rfl) (by kernel_rfl) (by kernel_rfl) (by kernel_rfl) (fun _ _ _ h => h) (fun w hS => x_slice (l := 9) (h := 17) rfl Try.underlying25 z5 rfl ⟨_, _, rfl, by omega, by omega, by omega⟩ ((by rw [if_neg (by omega)]; first | rfl | simp [add_mk]))) ⟨Holds.rd H22_ 2 rfl, Holds.ro_at H22_ 0 rfl⟩ ?_
  refine A_take 2 (ls' := #[true, true, true, false, false, false, false]) (v := (Value.pointer (some ⟨b2_, 0, none⟩))) rfl (by kernel_rfl) (by kernel_rfl) (by kernel_rfl) (by kernel_rfl) (fun _ _ _ h => h) (fun w hS => by kernel_rfl) ⟨Holds.rd H22_ 2 rfl, Holds.ro_at H22_ 0 rfl⟩ ?_
  refine A_take 3 (ls' := #[true, true, true, true, false, false, false]) (v := (Value.pointer (some ⟨b2_, 1, none⟩))) rfl (by kernel_rfl) (by kernel_rfl) (by kernel_rfl) (by kernel_rfl) (fun _ _ _ h => h) (fun w hS => by kernel_rfl) ⟨Holds.rd H22_ 2 rfl, Holds.ro_at H22_ 0 rfl⟩ ?_
  refine A_take 4 (ls' := #[true, true, true, true, true, false, false]) (v := (Value.int .i64 s)) rfl (by kernel_rfl) (by kernel_rfl) (by kernel_rfl) (by kernel_rfl) (fun _ _ _ h => h) (fun w hS => x_load1 rfl Try.underlying2 rfl (hS.1 1 (Value.int .i64 s) rfl)) ⟨Holds.rd H22_ 2 rfl, Holds.ro_at H22_ 0 rfl⟩ ?_
  refine A_take 5 (ls' := #[true, true, true, true, true, true, false]) (v := (Value.int .u64 (IntKind.u64.wrap s))) rfl (by kernel_rfl) (by kernel_rfl) (by kernel_rfl) (by kernel_rfl) (fun _ _ _ h => h) (fun w hS => x_convI rfl Try.underlying2 Try.underlying64 rfl) ⟨Holds.rd H22_ 2 rfl, Holds.ro_at H22_ 0 rfl⟩ ?_
  refine A_ready (i := 6) (rs := []) (by kernel_rfl) ?_
  refine AllR.cons ?_ AllR.nil
  refine A_op (ls' := #[true, true, true, true, true, true, true]) rfl (by kernel_rfl) (T_call (al := [(Value.slice (some ⟨b, 9, none⟩) 8 9), (Value.int .u64 (IntKind.u64.wrap s))]) (pre := [cl b 5 ((put8 (List.replicate 18 (.int .u8 0)) 0 (IntKind.u64.wrap m) 8).set 8 (Value.int .u8 95))]) (F := cl b2_ 82 [(Value.int .i64 m), (Value.int .i64 s), (Value.bool true)] :: F) rfl rfl cb65 (putUint64 R b 9 8 9 ((put8 (List.replicate 18 (.int .u8 0)) 0 (IntKind.u64.wrap m) 8).set 8 (Value.int .u8 95)) (IntKind.u64.wrap s) (by omega) (by simp [put8_length]) (wrap_u64_nn _)) H22_ ?_)
  rintro v26_ p27_ w23_ ⟨rfl, rfl⟩ S25_ H24_
  replace H24_ : Holds w23_ (ro R :: cl b 5 (put8 ((put8 (List.replicate 18 (.int .u8 0)) 0 (IntKind.u64.wrap m) 8).set 8 (Value.int .u8 95)) 9 (IntKind.u64.wrap s) 8) :: cl b2_ 82 [(Value.int .i64 m), (Value.int .i64 s), (Value.bool true)] :: F) := H24_
  have S28_ := Same.trans (Same.trans S19_ (Same.drew _)) S25_
  refine ⟨⟨Holds.rd H24_ 2 rfl, Holds.ro_at H24_ 0 rfl⟩, ?_⟩
  refine A_done (by kernel_rfl) ?_
  refine (X_then (hK20_ _ _ ?_))
  clear hK20_
  refine C_seq (fun K29_ hK29_ => ?_)
  refine C_seq (fun K30_ hK30_ => ?_)
  refine C_reg ?_
  refine S_list (T_val (v := (Value.pointer (some ⟨b2_, 2, none⟩))) (by kernel_rfl) ?_)
  refine S_list (T_val (v := (Value.bool true)) (x_load1 rfl Try.underlying4 rfl ((Holds.rd H24_ 2 rfl) 2 (Value.bool true) rfl)) ?_)
  refine wpList_nil ?_
  refine (X_then (hK30_ _ _ ?_))
  clear hK30_
  refine C_condT rfl ?_
  refine C_seq (fun K31_ hK31_ => ?_)
  refine C_reg ?_
  refine S_list (T_val (v := (Value.slice (some ⟨b, 0, none⟩) 17 18)) (x_move rfl) ?_)
  refine S_list (T_val (v := (Value.int .i64 17)) (x_lenS rfl Try.underlying25) ?_)
  refine wpList_nil ?_
  refine (X_then (hK31_ _ _ ?_))
  clear hK31_
  refine C_block ?_
  refine C_seq (fun K32_ hK32_ => ?_)
  refine C_reg ?_
  refine S_list (T_val (v := (Value.bool true)) (x_bin rfl rfl rfl) ?_)
  refine S_list (T_val (v := (Value.bool true)) (x_assign rfl) ?_)
  refine wpList_nil ?_
  refine (X_then (hK32_ _ _ ?_))
  clear hK32_
  refine C_condT rfl ?_
  refine C_reg ?_
  refine S_list (T_val (v := (Value.slice (some ⟨b, 0, none⟩) 17 18)) (x_move rfl) ?_)
  refine S_list (T_new (obj := .cells #[(Value.int .u8 116)] 5) (f := fun b => .slice (some ⟨b, 0, none⟩) 1 1) (A := fun b => cl b 5 [(Value.int .u8 116)]) (by kernel_rfl) (fun l h => h.alloc _ _) H24_ ?_)
  intro b33_ w34_ S36_ H35_
  replace H35_ : Holds w34_ (cl b33_ 5 [(Value.int .u8 116)] :: ro R :: cl b 5 (put8 ((put8 (List.replicate 18 (.int .u8 0)) 0 (IntKind.u64.wrap m) 8).set 8 (Value.int .u8 95)) 9 (IntKind.u64.wrap s) 8) :: cl b2_ 82 [(Value.int .i64 m), (Value.int .i64 s), (Value.bool true)] :: F) := H35_
  have S37_ := Same.trans S28_ S36_
  have H38_ : Holds w34_ (cl b33_ 5 [(Value.int .u8 116)] :: ro R :: cl b 5 ([] ++ (bytesV (rvb (IntKind.u64.wrap m) (IntKind.u64.wrap s))) ++ (bytesV [0])) :: cl b2_ 82 [(Value.int .i64 m), (Value.int .i64 s), (Value.bool true)] :: F) := cast1 (P := fun (c__ : List Value) => Holds w34_ (cl b33_ 5 [(Value.int .u8 116)] :: ro R :: cl b 5 c__ :: cl b2_ 82 [(Value.int .i64 m), (Value.int .i64 s), (Value.bool true)] :: F)) (by kernel_rfl : put8 ((put8 (List.replicate 18 (.int .u8 0)) 0 (IntKind.u64.wrap m) 8).set 8 (Value.int .u8 95)) 9 (IntKind.u64.wrap s) 8 = [] ++ (bytesV (rvb (IntKind.u64.wrap m) (IntKind.u64.wrap s))) ++ (bytesV [0])) H35_
  have H39_ : Holds w34_ (cl b33_ 5 [(Value.int .u8 116)] :: ro R :: sl 5 1 (Value.slice (some ⟨b, 0, none⟩) 17 18) 17 (bytesV (rvb (IntKind.u64.wrap m) (IntKind.u64.wrap s))) :: cl b2_ 82 [(Value.int .i64 m), (Value.int .i64 s), (Value.bool true)] :: F) := Holds.to_sl H38_ 2 [] (bytesV [0]) (xs := bytesV (rvb (IntKind.u64.wrap m) (IntKind.u64.wrap s))) (m := 17) (cap := 18) (sz := 1) rfl (by kernel_rfl) (by kernel_rfl) (by omega)
  refine S_list (T_append rfl rfl Try.underlying25 z5 rfl (by decide) H39_ 2 rfl (Holds.cl_src H39_ 0 rfl Try.underlying25 (by simp [Value.oneCell']) rfl) (by omega) ?_)
  intro v40_ w41_ S43_ H42_
  replace H42_ : Holds w41_ (cl b33_ 5 [(Value.int .u8 116)] :: ro R :: sl 5 1 v40_ 18 ((bytesV (rvb (IntKind.u64.wrap m) (IntKind.u64.wrap s))) ++ [(Value.int .u8 116)]) :: cl b2_ 82 [(Value.int .i64 m), (Value.int .i64 s), (Value.bool true)] :: F) := H42_
  have S44_ := Same.trans S37_ S43_
  refine S_list (T_val (v := v40_) (x_assign rfl) ?_)
  refine wpList_nil ?_
  refine (X_blkN (X_then (hK29_ _ _ ?_)))
  clear hK29_
  refine C_seq (fun K45_ hK45_ => ?_)
  refine C_reg ?_
  refine S_list (T_val (v := v40_) (x_move rfl) ?_)
  refine S_list (T_val (v := v40_) (x_assign rfl) ?_)
  refine wpList_nil ?_
  refine (X_then (hK45_ _ _ ?_))
  clear hK45_
  refine C_ret ?_
  refine R_any (v := v40_) (run_results1 rfl rfl) ?_
  have H46_ : Holds w41_ (cl b33_ 5 [(Value.int .u8 116)] :: ro R :: sl 5 1 v40_ 18 (bytesV (rvb (IntKind.u64.wrap m) (IntKind.u64.wrap s) ++ [116])) :: cl b2_ 82 [(Value.int .i64 m), (Value.int .i64 s), (Value.bool true)] :: F) := cast2 (P := fun (c__ : List Value) (k__ : Nat) => Holds w41_ (cl b33_ 5 [(Value.int .u8 116)] :: ro R :: sl 5 1 v40_ k__ c__ :: cl b2_ 82 [(Value.int .i64 m), (Value.int .i64 s), (Value.bool true)] :: F)) (by simp [bytesV] : (bytesV (rvb (IntKind.u64.wrap m) (IntKind.u64.wrap s))) ++ [(Value.int .u8 116)] = bytesV (rvb (IntKind.u64.wrap m) (IntKind.u64.wrap s) ++ [116])) (rfl : 18 = 18) H42_
  have H47_ : Holds w41_ (ro R :: sl 5 1 v40_ 18 (bytesV (rvb (IntKind.u64.wrap m) (IntKind.u64.wrap s) ++ [116])) :: F) := (Holds.erase (Holds.erase (Holds.bring (Holds.bring H46_ 2 rfl) 2 rfl) 2) 2)
  exact ⟨_, [sl 5 1 v40_ 18 (bytesV (rvb (IntKind.u64.wrap m) (IntKind.u64.wrap s) ++ [116]))], rfl, rfl, S44_, H47_⟩

set_option maxHeartbeats 400000 in
theorem revBytes (R : HP) (m s : Int) :
    Tri Try.prog 9 #[(Value.agg #[(Value.int .i64 m), (Value.int .i64 s)])] R [] (fun v post => post = [sl 5 1 v 17 (bytesV (rvb (IntKind.u64.wrap m) (IntKind.u64.wrap s)))]) := by
  refine Tri.into (n := 7) (al := [(Value.agg #[(Value.int .i64 m), (Value.int .i64 s)])]) Try.func9 rfl Try.ntmps9 rfl rfl fun w F H => ?_
  replace H : Holds w (ro R :: F) := H
  refine C_seq (fun K1_ hK1_ => ?_)
  refine C_reg ?_
  refine S_list (T_box (v := (Value.agg #[(Value.int .i64 m), (Value.int .i64 s)])) rfl H ?_)
  intro b2_ w3_ S5_ H4_
  replace H4_ : Holds w3_ (cl b2_ 23 [(Value.int .i64 m), (Value.int .i64 s)] :: ro R :: F) := H4_
  have S6_ := Same.trans (Same.refl w) S5_
  refine S_list (T_val (v := (Value.slice none 0 0)) (x_assign rfl) ?_)
  refine wpList_nil ?_
  refine (X_then (hK1_ _ _ ?_))
  clear hK1_
  refine C_seq (fun K7_ hK7_ => ?_)
  refine C_reg ?_
  refine S_list (T_val (v := (Value.agg #[(Value.int .i64 m), (Value.int .i64 s)])) (x_loadN (vs := [(Value.int .i64 m), (Value.int .i64 s)]) rfl Try.underlying23 rfl z23 rfl (Rd.cells (Holds.rd H4_ 0 rfl) 0 rfl)) ?_)
  refine S_list (T_callW (al := [(Value.agg #[(Value.int .i64 m), (Value.int .i64 s)])]) rfl rfl cb31 (Calls.into (n := 8) (al := [(Value.agg #[(Value.int .i64 m), (Value.int .i64 s)])]) Try.func31 rfl Try.ntmps31 rfl rfl ?_))
  refine C_seq (fun K8_ hK8_ => ?_)
  refine C_reg ?_
  refine S_list (T_box (v := (Value.agg #[(Value.int .i64 m), (Value.int .i64 s)])) rfl H4_ ?_)
  intro b9_ w10_ S12_ H11_
  replace H11_ : Holds w10_ (cl b9_ 23 [(Value.int .i64 m), (Value.int .i64 s)] :: cl b2_ 23 [(Value.int .i64 m), (Value.int .i64 s)] :: ro R :: F) := H11_
  have S13_ := Same.trans S6_ S12_
  refine S_list (T_alloc z61 H11_ ?_)
  intro b14_ w15_ S17_ H16_
  replace H16_ : Holds w15_ (cl b14_ 61 [(Value.int .i64 0), (Value.int .i64 0)] :: cl b9_ 23 [(Value.int .i64 m), (Value.int .i64 s)] :: cl b2_ 23 [(Value.int .i64 m), (Value.int .i64 s)] :: ro R :: F) := H16_
  have S18_ := Same.trans S13_ S17_
  refine wpList_nil ?_
  refine (X_then (hK8_ _ _ ?_))
  clear hK8_
  refine C_seq (fun K19_ hK19_ => ?_)
  refine C_reg ?_
  refine S_list (T_val (v := (Value.pointer (some ⟨b9_, 0, none⟩))) (by kernel_rfl) ?_)
  refine S_list (T_val (v := (Value.int .i64 m)) (x_load1 rfl Try.underlying2 rfl ((Holds.rd H16_ 1 rfl) 0 (Value.int .i64 m) rfl)) ?_)
  refine S_list (T_val (v := (Value.pointer (some ⟨b9_, 1, none⟩))) (by kernel_rfl) ?_)
  refine S_list (T_val (v := (Value.int .i64 s)) (x_load1 rfl Try.underlying2 rfl ((Holds.rd H16_ 1 rfl) 1 (Value.int .i64 s) rfl)) ?_)
  refine S_list (T_val (v := (Value.agg #[(Value.int .i64 m), (Value.int .i64 s)])) (by kernel_rfl) ?_)
  refine S_list0 (T_storeN (vs := [(Value.int .i64 m), (Value.int .i64 s)]) rfl rfl z61 rfl (by simp [Value.oneCell']) H16_ 0 rfl (Nat.le_of_ble_eq_true (by rfl)) ?_)
  intro w20_ S22_ H21_
  replace H21_ : Holds w20_ (cl b14_ 61 [(Value.int .i64 m), (Value.int .i64 s)] :: cl b9_ 23 [(Value.int .i64 m), (Value.int .i64 s)] :: cl b2_ 23 [(Value.int .i64 m), (Value.int .i64 s)] :: ro R :: F) := H21_
  have S23_ := Same.trans S18_ S22_
  refine wpList_nil ?_
  refine (X_then (hK19_ _ _ ?_))
  clear hK19_
  refine C_ret ?_
  refine R_any (v := (Value.agg #[(Value.int .i64 m), (Value.int .i64 s)])) (run_results1 rfl ⟨_, rfl, load_resN Try.underlying61 rfl z61 rfl (vs := [(Value.int .i64 m), (Value.int .i64 s)]) (Holds.cl_cells H21_ 0 rfl 0 rfl)⟩) ⟨_, rfl, ?_⟩
  have H25_ : Holds w20_ (ro R :: cl b14_ 61 [(Value.int .i64 m), (Value.int .i64 s)] :: cl b9_ 23 [(Value.int .i64 m), (Value.int .i64 s)] :: cl b2_ 23 [(Value.int .i64 m), (Value.int .i64 s)] :: F) := (Holds.bring H21_ 3 rfl)
  refine S_list (T_call (al := []) (pre := []) (F := cl b14_ 61 [(Value.int .i64 m), (Value.int .i64 s)] :: cl b9_ 23 [(Value.int .i64 m), (Value.int .i64 s)] :: cl b2_ 23 [(Value.int .i64 m), (Value.int .i64 s)] :: F) rfl rfl cb32 (newRevBytes R) H25_ ?_)
  rintro v29_ p30_ w26_ ⟨b24_, rfl, rfl⟩ S28_ H27_
  replace H27_ : Holds w26_ (ro R :: cl b24_ 5 (List.replicate 18 (.int .u8 0)) :: cl b14_ 61 [(Value.int .i64 m), (Value.int .i64 s)] :: cl b9_ 23 [(Value.int .i64 m), (Value.int .i64 s)] :: cl b2_ 23 [(Value.int .i64 m), (Value.int .i64 s)] :: F) := H27_
  have S31_ := Same.trans S23_ S28_
  refine S_list (T_callW (al := [(Value.agg #[(Value.int .i64 m), (Value.int .i64 s)]), (Value.slice (some ⟨b24_, 0, none⟩) 17 18)]) rfl rfl cb30 (Calls.into (n := 12) (al := [(Value.agg #[(Value.int .i64 m), (Value.int .i64 s)]), (Value.slice (some ⟨b24_, 0, none⟩) 17 18)]) Try.func30 rfl Try.ntmps30 rfl rfl ?_))
  refine C_seq (fun K32_ hK32_ => ?_)
  refine C_reg ?_
  refine S_list (T_box (v := (Value.agg #[(Value.int .i64 m), (Value.int .i64 s)])) rfl H27_ ?_)
  intro b33_ w34_ S36_ H35_
  replace H35_ : Holds w34_ (cl b33_ 61 [(Value.int .i64 m), (Value.int .i64 s)] :: ro R :: cl b24_ 5 (List.replicate 18 (.int .u8 0)) :: cl b14_ 61 [(Value.int .i64 m), (Value.int .i64 s)] :: cl b9_ 23 [(Value.int .i64 m), (Value.int .i64 s)] :: cl b2_ 23 [(Value.int .i64 m), (Value.int .i64 s)] :: F) := H35_
  have S37_ := Same.trans S31_ S36_
  refine S_list (T_val (v := (Value.slice none 0 0)) (x_assign rfl) ?_)
  refine wpList_nil ?_
  refine (X_then (hK32_ _ _ ?_))
  clear hK32_
  refine C_seq (fun K38_ hK38_ => ?_)
  refine C_reg ?_
  refine S_list (T_val (v := (Value.pointer (some ⟨b33_, 0, none⟩))) (by kernel_rfl) ?_)
  refine S_list (T_val (v := (Value.int .i64 m)) (x_load1 rfl Try.underlying2 rfl ((Holds.rd H35_ 0 rfl) 0 (Value.int .i64 m) rfl)) ?_)
  refine S_list (T_val (v := (Value.pointer (some ⟨b33_, 1, none⟩))) (by kernel_rfl) ?_)
  refine S_list (T_val (v := (Value.int .i64 s)) (x_load1 rfl Try.underlying2 rfl ((Holds.rd H35_ 0 rfl) 1 (Value.int .i64 s) rfl)) ?_)
  have H39_ : Holds w34_ (ro R :: cl b33_ 61 [(Value.int .i64 m), (Value.int .i64 s)] :: cl b24_ 5 (List.replicate 18 (.int .u8 0)) :: cl b14_ 61 [(Value.int .i64 m), (Value.int .i64 s)] :: cl b9_ 23 [(Value.int .i64 m), (Value.int .i64 s)] :: cl b2_ 23 [(Value.int .i64 m), (Value.int .i64 s)] :: F) := (Holds.bring H35_ 1 rfl)
  refine S_list (T_call (al := [(Value.int .i64 m), (Value.int .i64 s), (Value.bool false)]) (pre := []) (F := cl b33_ 61 [(Value.int .i64 m), (Value.int .i64 s)] :: cl b24_ 5 (List.replicate 18 (.int .u8 0)) :: cl b14_ 61 [(Value.int .i64 m), (Value.int .i64 s)] :: cl b9_ 23 [(Value.int .i64 m), (Value.int .i64 s)] :: cl b2_ 23 [(Value.int .i64 m), (Value.int .i64 s)] :: F) rfl rfl cb57 (newBucketKey R m s false) H39_ ?_)
  rintro v43_ p44_ w40_ ⟨rfl, rfl⟩ S42_ H41_
  replace H41_ : Holds w40_ (ro R :: cl b33_ 61 [(Value.int .i64 m), (Value.int .i64 s)] :: cl b24_ 5 (List.replicate 18 (.int .u8 0)) :: cl b14_ 61 [(Value.int .i64 m), (Value.int .i64 s)] :: cl b9_ 23 [(Value.int .i64 m), (Value.int .i64 s)] :: cl b2_ 23 [(Value.int .i64 m), (Value.int .i64 s)] :: F) := H41_
  have S45_ := Same.trans S37_ S42_
  refine S_list (T_val (v := (Value.slice (some ⟨b24_, 0, none⟩) 17 18)) (x_move rfl) ?_)
  have H47_ : Holds w40_ (ro R :: cl b24_ 5 (List.replicate 18 (.int .u8 0)) :: cl b33_ 61 [(Value.int .i64 m), (Value.int .i64 s)] :: cl b14_ 61 [(Value.int .i64 m), (Value.int .i64 s)] :: cl b9_ 23 [(Value.int .i64 m), (Value.int .i64 s)] :: cl b2_ 23 [(Value.int .i64 m), (Value.int .i64 s)] :: F) := (Holds.bring (Holds.bring H41_ 2 rfl) 1 rfl)
  refine S_list (T_call (al := [(Value.agg #[(Value.int .i64 m), (Value.int .i64 s), (Value.bool false)]), (Value.slice (some ⟨b24_, 0, none⟩) 17 18)]) (pre := [cl b24_ 5 (List.replicate 18 (.int .u8 0))]) (F := cl b33_ 61 [(Value.int .i64 m), (Value.int .i64 s)] :: cl b14_ 61 [(Value.int .i64 m), (Value.int .i64 s)] :: cl b9_ 23 [(Value.int .i64 m), (Value.int .i64 s)] :: cl b2_ 23 [(Value.int .i64 m), (Value.int .i64 s)] :: F) rfl rfl cb45 (bk17f R b24_ m s) H47_ ?_)
  rintro v51_ p52_ w48_ rfl S50_ H49_
  replace H49_ : Holds w48_ (ro R :: sl 5 1 v51_ 17 (bytesV (rvb (IntKind.u64.wrap m) (IntKind.u64.wrap s))) :: cl b33_ 61 [(Value.int .i64 m), (Value.int .i64 s)] :: cl b14_ 61 [(Value.int .i64 m), (Value.int .i64 s)] :: cl b9_ 23 [(Value.int .i64 m), (Value.int .i64 s)] :: cl b2_ 23 [(Value.int .i64 m), (Value.int .i64 s)] :: F) := H49_
  have S53_ := Same.trans S45_ S50_
  refine S_list (T_val (v := v51_) (x_assign rfl) ?_)
  refine wpList_nil ?_
  refine (X_then (hK38_ _ _ ?_))
  clear hK38_
  refine C_ret ?_
  refine R_any (v := v51_) (run_results1 rfl rfl) ⟨_, rfl, ?_⟩
  refine S_list (T_val (v := v51_) (x_assign rfl) ?_)
  refine wpList_nil ?_
  refine (X_then (hK7_ _ _ ?_))
  clear hK7_
  refine C_ret ?_
  refine R_any (v := v51_) (run_results1 rfl rfl) ?_
  have H54_ : Holds w48_ (ro R :: sl 5 1 v51_ 17 (bytesV (rvb (IntKind.u64.wrap m) (IntKind.u64.wrap s))) :: F) := (Holds.erase (Holds.erase (Holds.erase (Holds.erase (Holds.bring (Holds.bring H49_ 1 rfl) 1 rfl) 2) 2) 2) 2)
  exact ⟨_, [sl 5 1 v51_ 17 (bytesV (rvb (IntKind.u64.wrap m) (IntKind.u64.wrap s)))], rfl, rfl, S53_, H54_⟩

set_option maxHeartbeats 400000 in
theorem bucketBytestt (R : HP) (m s : Int) :
    Tri Try.prog 23 #[(Value.agg #[(Value.int .i64 m), (Value.int .i64 s)]), (Value.bool true), (Value.bool true)] R [] (fun v post => post = [sl 5 1 v 18 (bytesV (rvb (IntKind.u64.wrap m) (IntKind.u64.wrap s) ++ [116]))]) := by
  refine Tri.into (n := 17) (al := [(Value.agg #[(Value.int .i64 m), (Value.int .i64 s)]), (Value.bool true), (Value.bool true)]) Try.func23 rfl Try.ntmps23 rfl rfl fun w F H => ?_
  replace H : Holds w (ro R :: F) := H
  refine C_seq (fun K1_ hK1_ => ?_)
  refine C_reg ?_
  refine S_list (T_box (v := (Value.agg #[(Value.int .i64 m), (Value.int .i64 s)])) rfl H ?_)
  intro b2_ w3_ S5_ H4_
  replace H4_ : Holds w3_ (cl b2_ 23 [(Value.int .i64 m), (Value.int .i64 s)] :: ro R :: F) := H4_
  have S6_ := Same.trans (Same.refl w) S5_
  refine S_list (T_val (v := (Value.slice none 0 0)) (x_assign rfl) ?_)
  refine wpList_nil ?_
  refine (X_then (hK1_ _ _ ?_))
  clear hK1_
  refine C_seq (fun K7_ hK7_ => ?_)
  refine C_reg ?_
  have H9_ : Holds w3_ (ro R :: cl b2_ 23 [(Value.int .i64 m), (Value.int .i64 s)] :: F) := (Holds.bring H4_ 1 rfl)
  refine S_list (T_call (al := []) (pre := []) (F := cl b2_ 23 [(Value.int .i64 m), (Value.int .i64 s)] :: F) rfl rfl cb32 (newRevBytes R) H9_ ?_)
  rintro v13_ p14_ w10_ ⟨b8_, rfl, rfl⟩ S12_ H11_
  replace H11_ : Holds w10_ (ro R :: cl b8_ 5 (List.replicate 18 (.int .u8 0)) :: cl b2_ 23 [(Value.int .i64 m), (Value.int .i64 s)] :: F) := H11_
  have S15_ := Same.trans S6_ S12_
  refine S_list (T_val (v := (Value.slice (some ⟨b8_, 0, none⟩) 17 18)) (x_assign rfl) ?_)
  refine wpList_nil ?_
  refine (X_then (hK7_ _ _ ?_))
  clear hK7_
  refine C_seq (fun K16_ hK16_ => ?_)
  refine C_seq (fun K17_ hK17_ => ?_)
  refine C_reg ?_
  refine S_list (T_val (v := (Value.bool true)) (x_move rfl) ?_)
  refine wpList_nil ?_
  refine (X_then (hK17_ _ _ ?_))
  clear hK17_
  refine C_condT rfl ?_
  refine C_reg ?_
  refine S_list (T_makeSlice1 (len := 18) (cap := 18) rfl rfl Try.underlying25 z5 rfl (by omega) (by omega) (by omega) (by omega) (by omega) H11_ ?_)
  intro b18_ w19_ S21_ H20_
  replace H20_ : Holds w19_ (cl b18_ 5 (List.replicate 18 (Value.int .u8 0)) :: ro R :: cl b8_ 5 (List.replicate 18 (.int .u8 0)) :: cl b2_ 23 [(Value.int .i64 m), (Value.int .i64 s)] :: F) := H20_
  have S22_ := Same.trans S15_ S21_
  refine S_list (T_val (v := (Value.slice (some ⟨b18_, 0, none⟩) 18 18)) (x_assign rfl) ?_)
  refine wpList_nil ?_
  refine (X_then (hK16_ _ _ ?_))
  clear hK16_
  refine C_seq (fun K23_ hK23_ => ?_)
  refine C_reg ?_
  refine S_list (T_val (v := (Value.agg #[(Value.int .i64 m), (Value.int .i64 s)])) (x_loadN (vs := [(Value.int .i64 m), (Value.int .i64 s)]) rfl Try.underlying23 rfl z23 rfl (Rd.cells (Holds.rd H20_ 3 rfl) 0 rfl)) ?_)
  refine S_list (T_callW (al := [(Value.agg #[(Value.int .i64 m), (Value.int .i64 s)])]) rfl rfl cb31 (Calls.into (n := 8) (al := [(Value.agg #[(Value.int .i64 m), (Value.int .i64 s)])]) Try.func31 rfl Try.ntmps31 rfl rfl ?_))
  refine C_seq (fun K24_ hK24_ => ?_)
  refine C_reg ?_
  refine S_list (T_box (v := (Value.agg #[(Value.int .i64 m), (Value.int .i64 s)])) rfl H20_ ?_)
  intro b25_ w26_ S28_ H27_
  replace H27_ : Holds w26_ (cl b25_ 23 [(Value.int .i64 m), (Value.int .i64 s)] :: cl b18_ 5 (List.replicate 18 (Value.int .u8 0)) :: ro R :: cl b8_ 5 (List.replicate 18 (.int .u8 0)) :: cl b2_ 23 [(Value.int .i64 m), (Value.int .i64 s)] :: F) := H27_
  have S29_ := Same.trans S22_ S28_
  refine S_list (T_alloc z61 H27_ ?_)
  intro b30_ w31_ S33_ H32_
  replace H32_ : Holds w31_ (cl b30_ 61 [(Value.int .i64 0), (Value.int .i64 0)] :: cl b25_ 23 [(Value.int .i64 m), (Value.int .i64 s)] :: cl b18_ 5 (List.replicate 18 (Value.int .u8 0)) :: ro R :: cl b8_ 5 (List.replicate 18 (.int .u8 0)) :: cl b2_ 23 [(Value.int .i64 m), (Value.int .i64 s)] :: F) := H32_
  have S34_ := Same.trans S29_ S33_
  refine wpList_nil ?_
  refine (X_then (hK24_ _ _ ?_))
  clear hK24_
  refine C_seq (fun K35_ hK35_ => ?_)
  refine C_reg ?_
  refine S_list (T_val (v := (Value.pointer (some ⟨b25_, 0, none⟩))) (by kernel_rfl) ?_)
  refine S_list (T_val (v := (Value.int .i64 m)) (x_load1 rfl Try.underlying2 rfl ((Holds.rd H32_ 1 rfl) 0 (Value.int .i64 m) rfl)) ?_)
  refine S_list (T_val (v := (Value.pointer (some ⟨b25_, 1, none⟩))) (by kernel_rfl) ?_)
  refine S_list (T_val (v := (Value.int .i64 s)) (x_load1 rfl Try.underlying2 rfl ((Holds.rd H32_ 1 rfl) 1 (Value.int .i64 s) rfl)) ?_)
  refine S_list (T_val (v := (Value.agg #[(Value.int .i64 m), (Value.int .i64 s)])) (by kernel_rfl) ?_)
  refine S_list0 (T_storeN (vs := [(Value.int .i64 m), (Value.int .i64 s)]) rfl rfl z61 rfl (by simp [Value.oneCell']) H32_ 0 rfl (Nat.le_of_ble_eq_true (by rfl)) ?_)
  intro w36_ S38_ H37_
  replace H37_ : Holds w36_ (cl b30_ 61 [(Value.int .i64 m), (Value.int .i64 s)] :: cl b25_ 23 [(Value.int .i64 m), (Value.int .i64 s)] :: cl b18_ 5 (List.replicate 18 (Value.int .u8 0)) :: ro R :: cl b8_ 5 (List.replicate 18 (.int .u8 0)) :: cl b2_ 23 [(Value.int .i64 m), (Value.int .i64 s)] :: F) := H37_
  have S39_ := Same.trans S34_ S38_
  refine wpList_nil ?_
  refine (X_then (hK35_ _ _ ?_))
  clear hK35_
  refine C_ret ?_
  refine R_any (v := (Value.agg #[(Value.int .i64 m), (Value.int .i64 s)])) (run_results1 rfl ⟨_, rfl, load_resN Try.underlying61 rfl z61 rfl (vs := [(Value.int .i64 m), (Value.int .i64 s)]) (Holds.cl_cells H37_ 0 rfl 0 rfl)⟩) ⟨_, rfl, ?_⟩
  refine S_list (T_val (v := (Value.bool true)) (x_move rfl) ?_)
  refine S_list (T_callW (al := [(Value.agg #[(Value.int .i64 m), (Value.int .i64 s)]), (Value.bool true)]) rfl rfl cb46 (Calls.into (n := 11) (al := [(Value.agg #[(Value.int .i64 m), (Value.int .i64 s)]), (Value.bool true)]) Try.func46 rfl Try.ntmps46 rfl rfl ?_))
  refine C_seq (fun K40_ hK40_ => ?_)
  refine C_reg ?_
  refine S_list (T_box (v := (Value.agg #[(Value.int .i64 m), (Value.int .i64 s)])) rfl H37_ ?_)
  intro b41_ w42_ S44_ H43_
  replace H43_ : Holds w42_ (cl b41_ 61 [(Value.int .i64 m), (Value.int .i64 s)] :: cl b30_ 61 [(Value.int .i64 m), (Value.int .i64 s)] :: cl b25_ 23 [(Value.int .i64 m), (Value.int .i64 s)] :: cl b18_ 5 (List.replicate 18 (Value.int .u8 0)) :: ro R :: cl b8_ 5 (List.replicate 18 (.int .u8 0)) :: cl b2_ 23 [(Value.int .i64 m), (Value.int .i64 s)] :: F) := H43_
  have S45_ := Same.trans S39_ S44_
  refine S_list (T_alloc z82 H43_ ?_)
  intro b46_ w47_ S49_ H48_
  replace H48_ : Holds w47_ (cl b46_ 82 [(Value.int .i64 0), (Value.int .i64 0), (Value.bool false)] :: cl b41_ 61 [(Value.int .i64 m), (Value.int .i64 s)] :: cl b30_ 61 [(Value.int .i64 m), (Value.int .i64 s)] :: cl b25_ 23 [(Value.int .i64 m), (Value.int .i64 s)] :: cl b18_ 5 (List.replicate 18 (Value.int .u8 0)) :: ro R :: cl b8_ 5 (List.replicate 18 (.int .u8 0)) :: cl b2_ 23 [(Value.int .i64 m), (Value.int .i64 s)] :: F) := H48_
  have S50_ := Same.trans S45_ S49_
  refine wpList_nil ?_
  refine (X_then (hK40_ _ _ ?_))
  clear hK40_
  refine C_seq (fun K51_ hK51_ => ?_)
  refine C_reg ?_
  refine S_list (T_val (v := (Value.pointer (some ⟨b41_, 0, none⟩))) (by kernel_rfl) ?_)
  refine S_list (T_val (v := (Value.int .i64 m)) (x_load1 rfl Try.underlying2 rfl ((Holds.rd H48_ 1 rfl) 0 (Value.int .i64 m) rfl)) ?_)
  refine S_list (T_val (v := (Value.pointer (some ⟨b41_, 1, none⟩))) (by kernel_rfl) ?_)
  refine S_list (T_val (v := (Value.int .i64 s)) (x_load1 rfl Try.underlying2 rfl ((Holds.rd H48_ 1 rfl) 1 (Value.int .i64 s) rfl)) ?_)
  refine S_list (T_val (v := (Value.bool true)) (x_move rfl) ?_)
  have H52_ : Holds w47_ (ro R :: cl b46_ 82 [(Value.int .i64 0), (Value.int .i64 0), (Value.bool false)] :: cl b41_ 61 [(Value.int .i64 m), (Value.int .i64 s)] :: cl b30_ 61 [(Value.int .i64 m), (Value.int .i64 s)] :: cl b25_ 23 [(Value.int .i64 m), (Value.int .i64 s)] :: cl b18_ 5 (List.replicate 18 (Value.int .u8 0)) :: cl b8_ 5 (List.replicate 18 (.int .u8 0)) :: cl b2_ 23 [(Value.int .i64 m), (Value.int .i64 s)] :: F) := (Holds.bring H48_ 5 rfl)
  refine S_list (T_call (al := [(Value.int .i64 m), (Value.int .i64 s), (Value.bool true)]) (pre := []) (F := cl b46_ 82 [(Value.int .i64 0), (Value.int .i64 0), (Value.bool false)] :: cl b41_ 61 [(Value.int .i64 m), (Value.int .i64 s)] :: cl b30_ 61 [(Value.int .i64 m), (Value.int .i64 s)] :: cl b25_ 23 [(Value.int .i64 m), (Value.int .i64 s)] :: cl b18_ 5 (List.replicate 18 (Value.int .u8 0)) :: cl b8_ 5 (List.replicate 18 (.int .u8 0)) :: cl b2_ 23 [(Value.int .i64 m), (Value.int .i64 s)] :: F) rfl rfl cb57 (newBucketKey R m s true) H52_ ?_)
  rintro v56_ p57_ w53_ ⟨rfl, rfl⟩ S55_ H54_
  replace H54_ : Holds w53_ (ro R :: cl b46_ 82 [(Value.int .i64 0), (Value.int .i64 0), (Value.bool false)] :: cl b41_ 61 [(Value.int .i64 m), (Value.int .i64 s)] :: cl b30_ 61 [(Value.int .i64 m), (Value.int .i64 s)] :: cl b25_ 23 [(Value.int .i64 m), (Value.int .i64 s)] :: cl b18_ 5 (List.replicate 18 (Value.int .u8 0)) :: cl b8_ 5 (List.replicate 18 (.int .u8 0)) :: cl b2_ 23 [(Value.int .i64 m), (Value.int .i64 s)] :: F) := H54_
  have S58_ := Same.trans S50_ S55_
  refine S_list0 (T_storeN (vs := [(Value.int .i64 m), (Value.int .i64 s), (Value.bool true)]) rfl rfl z82 rfl (by simp [Value.oneCell']) H54_ 1 rfl (Nat.le_of_ble_eq_true (by rfl)) ?_)
  intro w59_ S61_ H60_
  replace H60_ : Holds w59_ (ro R :: cl b46_ 82 [(Value.int .i64 m), (Value.int .i64 s), (Value.bool true)] :: cl b41_ 61 [(Value.int .i64 m), (Value.int .i64 s)] :: cl b30_ 61 [(Value.int .i64 m), (Value.int .i64 s)] :: cl b25_ 23 [(Value.int .i64 m), (Value.int .i64 s)] :: cl b18_ 5 (List.replicate 18 (Value.int .u8 0)) :: cl b8_ 5 (List.replicate 18 (.int .u8 0)) :: cl b2_ 23 [(Value.int .i64 m), (Value.int .i64 s)] :: F) := H60_
  have S62_ := Same.trans S58_ S61_
  refine wpList_nil ?_
  refine (X_then (hK51_ _ _ ?_))
  clear hK51_
  refine C_ret ?_
  refine R_any (v := (Value.agg #[(Value.int .i64 m), (Value.int .i64 s), (Value.bool true)])) (run_results1 rfl ⟨_, rfl, load_resN Try.underlying82 rfl z82 rfl (vs := [(Value.int .i64 m), (Value.int .i64 s), (Value.bool true)]) (Holds.cl_cells H60_ 1 rfl 0 rfl)⟩) ⟨_, rfl, ?_⟩
  refine S_list (T_val (v := (Value.slice (some ⟨b18_, 0, none⟩) 18 18)) (x_move rfl) ?_)
  have H64_ : Holds w59_ (ro R :: cl b18_ 5 (List.replicate 18 (Value.int .u8 0)) :: cl b46_ 82 [(Value.int .i64 m), (Value.int .i64 s), (Value.bool true)] :: cl b41_ 61 [(Value.int .i64 m), (Value.int .i64 s)] :: cl b30_ 61 [(Value.int .i64 m), (Value.int .i64 s)] :: cl b25_ 23 [(Value.int .i64 m), (Value.int .i64 s)] :: cl b8_ 5 (List.replicate 18 (.int .u8 0)) :: cl b2_ 23 [(Value.int .i64 m), (Value.int .i64 s)] :: F) := (Holds.bring (Holds.bring H60_ 5 rfl) 1 rfl)
  refine S_list (T_call (al := [(Value.agg #[(Value.int .i64 m), (Value.int .i64 s), (Value.bool true)]), (Value.slice (some ⟨b18_, 0, none⟩) 18 18)]) (pre := [cl b18_ 5 (List.replicate 18 (Value.int .u8 0))]) (F := cl b46_ 82 [(Value.int .i64 m), (Value.int .i64 s), (Value.bool true)] :: cl b41_ 61 [(Value.int .i64 m), (Value.int .i64 s)] :: cl b30_ 61 [(Value.int .i64 m), (Value.int .i64 s)] :: cl b25_ 23 [(Value.int .i64 m), (Value.int .i64 s)] :: cl b8_ 5 (List.replicate 18 (.int .u8 0)) :: cl b2_ 23 [(Value.int .i64 m), (Value.int .i64 s)] :: F) rfl rfl cb45 (bk18t R b18_ m s) H64_ ?_)
  rintro v68_ p69_ w65_ rfl S67_ H66_
  replace H66_ : Holds w65_ (ro R :: sl 5 1 v68_ 18 (bytesV (rvb (IntKind.u64.wrap m) (IntKind.u64.wrap s) ++ [116])) :: cl b46_ 82 [(Value.int .i64 m), (Value.int .i64 s), (Value.bool true)] :: cl b41_ 61 [(Value.int .i64 m), (Value.int .i64 s)] :: cl b30_ 61 [(Value.int .i64 m), (Value.int .i64 s)] :: cl b25_ 23 [(Value.int .i64 m), (Value.int .i64 s)] :: cl b8_ 5 (List.replicate 18 (.int .u8 0)) :: cl b2_ 23 [(Value.int .i64 m), (Value.int .i64 s)] :: F) := H66_
  have S70_ := Same.trans S62_ S67_
  refine S_list (T_val (v := v68_) (x_assign rfl) ?_)
  refine wpList_nil ?_
  refine (X_then (hK23_ _ _ ?_))
  clear hK23_
  refine C_ret ?_
  refine R_any (v := v68_) (run_results1 rfl rfl) ?_
  have H71_ : Holds w65_ (ro R :: sl 5 1 v68_ 18 (bytesV (rvb (IntKind.u64.wrap m) (IntKind.u64.wrap s) ++ [116])) :: F) := (Holds.erase (Holds.erase (Holds.erase (Holds.erase (Holds.erase (Holds.erase (Holds.bring (Holds.bring H66_ 1 rfl) 1 rfl) 2) 2) 2) 2) 2) 2)
  exact ⟨_, [sl 5 1 v68_ 18 (bytesV (rvb (IntKind.u64.wrap m) (IntKind.u64.wrap s) ++ [116]))], rfl, rfl, S70_, H71_⟩

set_option maxHeartbeats 400000 in
theorem bucketBytestf (R : HP) (m s : Int) :
    Tri Try.prog 23 #[(Value.agg #[(Value.int .i64 m), (Value.int .i64 s)]), (Value.bool true), (Value.bool false)] R [] (fun v post => post = [sl 5 1 v 18 (bytesV (rvb (IntKind.u64.wrap m) (IntKind.u64.wrap s) ++ [116]))]) := by
  refine Tri.into (n := 17) (al := [(Value.agg #[(Value.int .i64 m), (Value.int .i64 s)]), (Value.bool true), (Value.bool false)]) Try.func23 rfl Try.ntmps23 rfl rfl fun w F H => ?_
  replace H : Holds w (ro R :: F) := H
  refine C_seq (fun K1_ hK1_ => ?_)
  refine C_reg ?_
  refine S_list (T_box (v := (Value.agg #[(Value.int .i64 m), (Value.int .i64 s)])) rfl H ?_)
  intro b2_ w3_ S5_ H4_
  replace H4_ : Holds w3_ (cl b2_ 23 [(Value.int .i64 m), (Value.int .i64 s)] :: ro R :: F) := H4_
  have S6_ := Same.trans (Same.refl w) S5_
  refine S_list (T_val (v := (Value.slice none 0 0)) (x_assign rfl) ?_)
  refine wpList_nil ?_
  refine (X_then (hK1_ _ _ ?_))
  clear hK1_
  refine C_seq (fun K7_ hK7_ => ?_)
  refine C_reg ?_
  have H9_ : Holds w3_ (ro R :: cl b2_ 23 [(Value.int .i64 m), (Value.int .i64 s)] :: F) := (Holds.bring H4_ 1 rfl)
  refine S_list (T_call (al := []) (pre := []) (F := cl b2_ 23 [(Value.int .i64 m), (Value.int .i64 s)] :: F) rfl rfl cb32 (newRevBytes R) H9_ ?_)
  rintro v13_ p14_ w10_ ⟨b8_, rfl, rfl⟩ S12_ H11_
  replace H11_ : Holds w10_ (ro R :: cl b8_ 5 (List.replicate 18 (.int .u8 0)) :: cl b2_ 23 [(Value.int .i64 m), (Value.int .i64 s)] :: F) := H11_
  have S15_ := Same.trans S6_ S12_
  refine S_list (T_val (v := (Value.slice (some ⟨b8_, 0, none⟩) 17 18)) (x_assign rfl) ?_)
  refine wpList_nil ?_
  refine (X_then (hK7_ _ _ ?_))
  clear hK7_
  refine C_seq (fun K16_ hK16_ => ?_)
  refine C_seq (fun K17_ hK17_ => ?_)
  refine C_reg ?_
  refine S_list (T_val (v := (Value.bool false)) (x_move rfl) ?_)
  refine wpList_nil ?_
  refine (X_then (hK17_ _ _ ?_))
  clear hK17_
  refine C_condF rfl ?_
  refine C_skip (X_then (hK16_ _ _ ?_))
  clear hK16_
  refine C_seq (fun K18_ hK18_ => ?_)
  refine C_reg ?_
  refine S_list (T_val (v := (Value.agg #[(Value.int .i64 m), (Value.int .i64 s)])) (x_loadN (vs := [(Value.int .i64 m), (Value.int .i64 s)]) rfl Try.underlying23 rfl z23 rfl (Rd.cells (Holds.rd H11_ 2 rfl) 0 rfl)) ?_)
  refine S_list (T_callW (al := [(Value.agg #[(Value.int .i64 m), (Value.int .i64 s)])]) rfl rfl cb31 (Calls.into (n := 8) (al := [(Value.agg #[(Value.int .i64 m), (Value.int .i64 s)])]) Try.func31 rfl Try.ntmps31 rfl rfl ?_))
  refine C_seq (fun K19_ hK19_ => ?_)
  refine C_reg ?_
  refine S_list (T_box (v := (Value.agg #[(Value.int .i64 m), (Value.int .i64 s)])) rfl H11_ ?_)
  intro b20_ w21_ S23_ H22_
  replace H22_ : Holds w21_ (cl b20_ 23 [(Value.int .i64 m), (Value.int .i64 s)] :: ro R :: cl b8_ 5 (List.replicate 18 (.int .u8 0)) :: cl b2_ 23 [(Value.int .i64 m), (Value.int .i64 s)] :: F) := H22_
  have S24_ := Same.trans S15_ S23_
  refine S_list (T_alloc z61 H22_ ?_)
  intro b25_ w26_ S28_ H27_
  replace H27_ : Holds w26_ (cl b25_ 61 [(Value.int .i64 0), (Value.int .i64 0)] :: cl b20_ 23 [(Value.int .i64 m), (Value.int .i64 s)] :: ro R :: cl b8_ 5 (List.replicate 18 (.int .u8 0)) :: cl b2_ 23 [(Value.int .i64 m), (Value.int .i64 s)] :: F) := H27_
  have S29_ := Same.trans S24_ S28_
  refine wpList_nil ?_
  refine (X_then (hK19_ _ _ ?_))
  clear hK19_
  refine C_seq (fun K30_ hK30_ => ?_)
  refine C_reg ?_
  refine S_list (T_val (v := (Value.pointer (some ⟨b20_, 0, none⟩))) (by kernel_rfl) ?_)
  refine S_list (T_val (v := (Value.int .i64 m)) (x_load1 rfl Try.underlying2 rfl ((Holds.rd H27_ 1 rfl) 0 (Value.int .i64 m) rfl)) ?_)
  refine S_list (T_val (v := (Value.pointer (some ⟨b20_, 1, none⟩))) (by kernel_rfl) ?_)
  refine S_list (T_val (v := (Value.int .i64 s)) (x_load1 rfl Try.underlying2 rfl ((Holds.rd H27_ 1 rfl) 1 (Value.int .i64 s) rfl)) ?_)
  refine S_list (T_val (v := (Value.agg #[(Value.int .i64 m), (Value.int .i64 s)])) (by kernel_rfl) ?_)
  refine S_list0 (T_storeN (vs := [(Value.int .i64 m), (Value.int .i64 s)]) rfl rfl z61 rfl (by simp [Value.oneCell']) H27_ 0 rfl (Nat.le_of_ble_eq_true (by rfl)) ?_)
  intro w31_ S33_ H32_
  replace H32_ : Holds w31_ (cl b25_ 61 [(Value.int .i64 m), (Value.int .i64 s)] :: cl b20_ 23 [(Value.int .i64 m), (Value.int .i64 s)] :: ro R :: cl b8_ 5 (List.replicate 18 (.int .u8 0)) :: cl b2_ 23 [(Value.int .i64 m), (Value.int .i64 s)] :: F) := H32_
  have S34_ := Same.trans S29_ S33_
  refine wpList_nil ?_
  refine (X_then (hK30_ _ _ ?_))
  clear hK30_
  refine C_ret ?_
  refine R_any (v := (Value.agg #[(Value.int .i64 m), (Value.int .i64 s)])) (run_results1 rfl ⟨_, rfl, load_resN Try.underlying61 rfl z61 rfl (vs := [(Value.int .i64 m), (Value.int .i64 s)]) (Holds.cl_cells H32_ 0 rfl 0 rfl)⟩) ⟨_, rfl, ?_⟩
  refine S_list (T_val (v := (Value.bool true)) (x_move rfl) ?_)
  refine S_list (T_callW (al := [(Value.agg #[(Value.int .i64 m), (Value.int .i64 s)]), (Value.bool true)]) rfl rfl cb46 (Calls.into (n := 11) (al := [(Value.agg #[(Value.int .i64 m), (Value.int .i64 s)]), (Value.bool true)]) Try.func46 rfl Try.ntmps46 rfl rfl ?_))
  refine C_seq (fun K35_ hK35_ => ?_)
  refine C_reg ?_
  refine S_list (T_box (v := (Value.agg #[(Value.int .i64 m), (Value.int .i64 s)])) rfl H32_ ?_)
  intro b36_ w37_ S39_ H38_
  replace H38_ : Holds w37_ (cl b36_ 61 [(Value.int .i64 m), (Value.int .i64 s)] :: cl b25_ 61 [(Value.int .i64 m), (Value.int .i64 s)] :: cl b20_ 23 [(Value.int .i64 m), (Value.int .i64 s)] :: ro R :: cl b8_ 5 (List.replicate 18 (.int .u8 0)) :: cl b2_ 23 [(Value.int .i64 m), (Value.int .i64 s)] :: F) := H38_
  have S40_ := Same.trans S34_ S39_
  refine S_list (T_alloc z82 H38_ ?_)
  intro b41_ w42_ S44_ H43_
  replace H43_ : Holds w42_ (cl b41_ 82 [(Value.int .i64 0), (Value.int .i64 0), (Value.bool false)] :: cl b36_ 61 [(Value.int .i64 m), (Value.int .i64 s)] :: cl b25_ 61 [(Value.int .i64 m), (Value.int .i64 s)] :: cl b20_ 23 [(Value.int .i64 m), (Value.int .i64 s)] :: ro R :: cl b8_ 5 (List.replicate 18 (.int .u8 0)) :: cl b2_ 23 [(Value.int .i64 m), (Value.int .i64 s)] :: F) := H43_
  have S45_ := Same.trans S40_ S44_
  refine wpList_nil ?_
  refine (X_then (hK35_ _ _ ?_))
  clear hK35_
  refine C_seq (fun K46_ hK46_ => ?_)
  refine C_reg ?_
  refine S_list (T_val (v := (Value.pointer (some ⟨b36_, 0, none⟩))) (by kernel_rfl) ?_)
  refine S_list (T_val (v := (Value.int .i64 m)) (x_load1 rfl Try.underlying2 rfl ((Holds.rd H43_ 1 rfl) 0 (Value.int .i64 m) rfl)) ?_)
  refine S_list (T_val (v := (Value.pointer (some ⟨b36_, 1, none⟩))) (by kernel_rfl) ?_)
  refine S_list (T_val (v := (Value.int .i64 s)) (x_load1 rfl Try.underlying2 rfl ((Holds.rd H43_ 1 rfl) 1 (Value.int .i64 s) rfl)) ?_)
  refine S_list (T_val (v := (Value.bool true)) (x_move rfl) ?_)
  have H47_ : Holds w42_ (ro R :: cl b41_ 82 [(Value.int .i64 0), (Value.int .i64 0), (Value.bool false)] :: cl b36_ 61 [(Value.int .i64 m), (Value.int .i64 s)] :: cl b25_ 61 [(Value.int .i64 m), (Value.int .i64 s)] :: cl b20_ 23 [(Value.int .i64 m), (Value.int .i64 s)] :: cl b8_ 5 (List.replicate 18 (.int .u8 0)) :: cl b2_ 23 [(Value.int .i64 m), (Value.int .i64 s)] :: F) := (Holds.bring H43_ 4 rfl)
  refine S_list (T_call (al := [(Value.int .i64 m), (Value.int .i64 s), (Value.bool true)]) (pre := []) (F := cl b41_ 82 [(Value.int .i64 0), (Value.int .i64 0), (Value.bool false)] :: cl b36_ 61 [(Value.int .i64 m), (Value.int .i64 s)] :: cl b25_ 61 [(Value.int .i64 m), (Value.int .i64 s)] :: cl b20_ 23 [(Value.int .i64 m), (Value.int .i64 s)] :: cl b8_ 5 (List.replicate 18 (.int .u8 0)) :: cl b2_ 23 [(Value.int .i64 m), (Value.int .i64 s)] :: F) rfl rfl cb57 (newBucketKey R m s true) H47_ ?_)
  rintro v51_ p52_ w48_ ⟨rfl, rfl⟩ S50_ H49_
  replace H49_ : Holds w48_ (ro R :: cl b41_ 82 [(Value.int .i64 0), (Value.int .i64 0), (Value.bool false)] :: cl b36_ 61 [(Value.int .i64 m), (Value.int .i64 s)] :: cl b25_ 61 [(Value.int .i64 m), (Value.int .i64 s)] :: cl b20_ 23 [(Value.int .i64 m), (Value.int .i64 s)] :: cl b8_ 5 (List.replicate 18 (.int .u8 0)) :: cl b2_ 23 [(Value.int .i64 m), (Value.int .i64 s)] :: F) := H49_
  have S53_ := Same.trans S45_ S50_
  refine S_list0 (T_storeN (vs := [(Value.int .i64 m), (Value.int .i64 s), (Value.bool true)]) rfl rfl z82 rfl (by simp [Value.oneCell']) H49_ 1 rfl (Nat.le_of_ble_eq_true (by rfl)) ?_)
  intro w54_ S56_ H55_
  replace H55_ : Holds w54_ (ro R :: cl b41_ 82 [(Value.int .i64 m), (Value.int .i64 s), (Value.bool true)] :: cl b36_ 61 [(Value.int .i64 m), (Value.int .i64 s)] :: cl b25_ 61 [(Value.int .i64 m), (Value.int .i64 s)] :: cl b20_ 23 [(Value.int .i64 m), (Value.int .i64 s)] :: cl b8_ 5 (List.replicate 18 (.int .u8 0)) :: cl b2_ 23 [(Value.int .i64 m), (Value.int .i64 s)] :: F) := H55_
  have S57_ := Same.trans S53_ S56_
  refine wpList_nil ?_
  refine (X_then (hK46_ _ _ ?_))
  clear hK46_
  refine C_ret ?_
  refine R_any (v := (Value.agg #[(Value.int .i64 m), (Value.int .i64 s), (Value.bool true)])) (run_results1 rfl ⟨_, rfl, load_resN Try.underlying82 rfl z82 rfl (vs := [(Value.int .i64 m), (Value.int .i64 s), (Value.bool true)]) (Holds.cl_cells H55_ 1 rfl 0 rfl)⟩) ⟨_, rfl, ?_⟩
  refine S_list (T_val (v := (Value.slice (some ⟨b8_, 0, none⟩) 17 18)) (x_move rfl) ?_)
  have H59_ : Holds w54_ (ro R :: cl b8_ 5 (List.replicate 18 (.int .u8 0)) :: cl b41_ 82 [(Value.int .i64 m), (Value.int .i64 s), (Value.bool true)] :: cl b36_ 61 [(Value.int .i64 m), (Value.int .i64 s)] :: cl b25_ 61 [(Value.int .i64 m), (Value.int .i64 s)] :: cl b20_ 23 [(Value.int .i64 m), (Value.int .i64 s)] :: cl b2_ 23 [(Value.int .i64 m), (Value.int .i64 s)] :: F) := (Holds.bring (Holds.bring H55_ 5 rfl) 1 rfl)
  refine S_list (T_call (al := [(Value.agg #[(Value.int .i64 m), (Value.int .i64 s), (Value.bool true)]), (Value.slice (some ⟨b8_, 0, none⟩) 17 18)]) (pre := [cl b8_ 5 (List.replicate 18 (.int .u8 0))]) (F := cl b41_ 82 [(Value.int .i64 m), (Value.int .i64 s), (Value.bool true)] :: cl b36_ 61 [(Value.int .i64 m), (Value.int .i64 s)] :: cl b25_ 61 [(Value.int .i64 m), (Value.int .i64 s)] :: cl b20_ 23 [(Value.int .i64 m), (Value.int .i64 s)] :: cl b2_ 23 [(Value.int .i64 m), (Value.int .i64 s)] :: F) rfl rfl cb45 (bk17t R b8_ m s) H59_ ?_)
  rintro v63_ p64_ w60_ rfl S62_ H61_
  replace H61_ : Holds w60_ (ro R :: sl 5 1 v63_ 18 (bytesV (rvb (IntKind.u64.wrap m) (IntKind.u64.wrap s) ++ [116])) :: cl b41_ 82 [(Value.int .i64 m), (Value.int .i64 s), (Value.bool true)] :: cl b36_ 61 [(Value.int .i64 m), (Value.int .i64 s)] :: cl b25_ 61 [(Value.int .i64 m), (Value.int .i64 s)] :: cl b20_ 23 [(Value.int .i64 m), (Value.int .i64 s)] :: cl b2_ 23 [(Value.int .i64 m), (Value.int .i64 s)] :: F) := H61_
  have S65_ := Same.trans S57_ S62_
  refine S_list (T_val (v := v63_) (x_assign rfl) ?_)
  refine wpList_nil ?_
  refine (X_then (hK18_ _ _ ?_))
  clear hK18_
  refine C_ret ?_
  refine R_any (v := v63_) (run_results1 rfl rfl) ?_
  have H66_ : Holds w60_ (ro R :: sl 5 1 v63_ 18 (bytesV (rvb (IntKind.u64.wrap m) (IntKind.u64.wrap s) ++ [116])) :: F) := (Holds.erase (Holds.erase (Holds.erase (Holds.erase (Holds.erase (Holds.bring (Holds.bring H61_ 1 rfl) 1 rfl) 2) 2) 2) 2) 2)
  exact ⟨_, [sl 5 1 v63_ 18 (bytesV (rvb (IntKind.u64.wrap m) (IntKind.u64.wrap s) ++ [116]))], rfl, rfl, S65_, H66_⟩

set_option maxHeartbeats 400000 in
theorem bucketBytesft (R : HP) (m s : Int) :
    Tri Try.prog 23 #[(Value.agg #[(Value.int .i64 m), (Value.int .i64 s)]), (Value.bool false), (Value.bool true)] R [] (fun v post => post = [sl 5 1 v 18 (bytesV (rvb (IntKind.u64.wrap m) (IntKind.u64.wrap s) ++ [0]))]) := by
  refine Tri.into (n := 17) (al := [(Value.agg #[(Value.int .i64 m), (Value.int .i64 s)]), (Value.bool false), (Value.bool true)]) Try.func23 rfl Try.ntmps23 rfl rfl fun w F H => ?_
  replace H : Holds w (ro R :: F) := H
  refine C_seq (fun K1_ hK1_ => ?_)
  refine C_reg ?_
  refine S_list (T_box (v := (Value.agg #[(Value.int .i64 m), (Value.int .i64 s)])) rfl H ?_)
  intro b2_ w3_ S5_ H4_
  replace H4_ : Holds w3_ (cl b2_ 23 [(Value.int .i64 m), (Value.int .i64 s)] :: ro R :: F) := H4_
  have S6_ := Same.trans (Same.refl w) S5_
  refine S_list (T_val (v := (Value.slice none 0 0)) (x_assign rfl) ?_)
  refine wpList_nil ?_
  refine (X_then (hK1_ _ _ ?_))
  clear hK1_
  refine C_seq (fun K7_ hK7_ => ?_)
  refine C_reg ?_
  have H9_ : Holds w3_ (ro R :: cl b2_ 23 [(Value.int .i64 m), (Value.int .i64 s)] :: F) := (Holds.bring H4_ 1 rfl)
  refine S_list (T_call (al := []) (pre := []) (F := cl b2_ 23 [(Value.int .i64 m), (Value.int .i64 s)] :: F) rfl rfl cb32 (newRevBytes R) H9_ ?_)
  rintro v13_ p14_ w10_ ⟨b8_, rfl, rfl⟩ S12_ H11_
  replace H11_ : Holds w10_ (ro R :: cl b8_ 5 (List.replicate 18 (.int .u8 0)) :: cl b2_ 23 [(Value.int .i64 m), (Value.int .i64 s)] :: F) := H11_
  have S15_ := Same.trans S6_ S12_
  refine S_list (T_val (v := (Value.slice (some ⟨b8_, 0, none⟩) 17 18)) (x_assign rfl) ?_)
  refine wpList_nil ?_
  refine (X_then (hK7_ _ _ ?_))
  clear hK7_
  refine C_seq (fun K16_ hK16_ => ?_)
  refine C_seq (fun K17_ hK17_ => ?_)
  refine C_reg ?_
  refine S_list (T_val (v := (Value.bool true)) (x_move rfl) ?_)
  refine wpList_nil ?_
  refine (X_then (hK17_ _ _ ?_))
  clear hK17_
  refine C_condT rfl ?_
  refine C_reg ?_
  refine S_list (T_makeSlice1 (len := 18) (cap := 18) rfl rfl Try.underlying25 z5 rfl (by omega) (by omega) (by omega) (by omega) (by omega) H11_ ?_)
  intro b18_ w19_ S21_ H20_
  replace H20_ : Holds w19_ (cl b18_ 5 (List.replicate 18 (Value.int .u8 0)) :: ro R :: cl b8_ 5 (List.replicate 18 (.int .u8 0)) :: cl b2_ 23 [(Value.int .i64 m), (Value.int .i64 s)] :: F) := H20_
  have S22_ := Same.trans S15_ S21_
  refine S_list (T_val (v := (Value.slice (some ⟨b18_, 0, none⟩) 18 18)) (x_assign rfl) ?_)
  refine wpList_nil ?_
  refine (X_then (hK16_ _ _ ?_))
  clear hK16_
  refine C_seq (fun K23_ hK23_ => ?_)
  refine C_reg ?_
  refine S_list (T_val (v := (Value.agg #[(Value.int .i64 m), (Value.int .i64 s)])) (x_loadN (vs := [(Value.int .i64 m), (Value.int .i64 s)]) rfl Try.underlying23 rfl z23 rfl (Rd.cells (Holds.rd H20_ 3 rfl) 0 rfl)) ?_)
  refine S_list (T_callW (al := [(Value.agg #[(Value.int .i64 m), (Value.int .i64 s)])]) rfl rfl cb31 (Calls.into (n := 8) (al := [(Value.agg #[(Value.int .i64 m), (Value.int .i64 s)])]) Try.func31 rfl Try.ntmps31 rfl rfl ?_))
  refine C_seq (fun K24_ hK24_ => ?_)
  refine C_reg ?_
  refine S_list (T_box (v := (Value.agg #[(Value.int .i64 m), (Value.int .i64 s)])) rfl H20_ ?_)
  intro b25_ w26_ S28_ H27_
  replace H27_ : Holds w26_ (cl b25_ 23 [(Value.int .i64 m), (Value.int .i64 s)] :: cl b18_ 5 (List.replicate 18 (Value.int .u8 0)) :: ro R :: cl b8_ 5 (List.replicate 18 (.int .u8 0)) :: cl b2_ 23 [(Value.int .i64 m), (Value.int .i64 s)] :: F) := H27_
  have S29_ := Same.trans S22_ S28_
  refine S_list (T_alloc z61 H27_ ?_)
  intro b30_ w31_ S33_ H32_
  replace H32_ : Holds w31_ (cl b30_ 61 [(Value.int .i64 0), (Value.int .i64 0)] :: cl b25_ 23 [(Value.int .i64 m), (Value.int .i64 s)] :: cl b18_ 5 (List.replicate 18 (Value.int .u8 0)) :: ro R :: cl b8_ 5 (List.replicate 18 (.int .u8 0)) :: cl b2_ 23 [(Value.int .i64 m), (Value.int .i64 s)] :: F) := H32_
  have S34_ := Same.trans S29_ S33_
  refine wpList_nil ?_
  refine (X_then (hK24_ _ _ ?_))
  clear hK24_
  refine C_seq (fun K35_ hK35_ => ?_)
  refine C_reg ?_
  refine S_list (T_val (v := (Value.pointer (some ⟨b25_, 0, none⟩))) (by kernel_rfl) ?_)
  refine S_list (T_val (v := (Value.int .i64 m)) (x_load1 rfl Try.underlying2 rfl ((Holds.rd H32_ 1 rfl) 0 (Value.int .i64 m) rfl)) ?_)
  refine S_list (T_val (v := (Value.pointer (some ⟨b25_, 1, none⟩))) (by kernel_rfl) ?_)
  refine S_list (T_val (v := (Value.int .i64 s)) (x_load1 rfl Try.underlying2 rfl ((Holds.rd H32_ 1 rfl) 1 (Value.int .i64 s) rfl)) ?_)
  refine S_list (T_val (v := (Value.agg #[(Value.int .i64 m), (Value.int .i64 s)])) (by kernel_rfl) ?_)
  refine S_list0 (T_storeN (vs := [(Value.int .i64 m), (Value.int .i64 s)]) rfl rfl z61 rfl (by simp [Value.oneCell']) H32_ 0 rfl (Nat.le_of_ble_eq_true (by rfl)) ?_)
  intro w36_ S38_ H37_
  replace H37_ : Holds w36_ (cl b30_ 61 [(Value.int .i64 m), (Value.int .i64 s)] :: cl b25_ 23 [(Value.int .i64 m), (Value.int .i64 s)] :: cl b18_ 5 (List.replicate 18 (Value.int .u8 0)) :: ro R :: cl b8_ 5 (List.replicate 18 (.int .u8 0)) :: cl b2_ 23 [(Value.int .i64 m), (Value.int .i64 s)] :: F) := H37_
  have S39_ := Same.trans S34_ S38_
  refine wpList_nil ?_
  refine (X_then (hK35_ _ _ ?_))
  clear hK35_
  refine C_ret ?_
  refine R_any (v := (Value.agg #[(Value.int .i64 m), (Value.int .i64 s)])) (run_results1 rfl ⟨_, rfl, load_resN Try.underlying61 rfl z61 rfl (vs := [(Value.int .i64 m), (Value.int .i64 s)]) (Holds.cl_cells H37_ 0 rfl 0 rfl)⟩) ⟨_, rfl, ?_⟩
  refine S_list (T_val (v := (Value.bool false)) (x_move rfl) ?_)
  refine S_list (T_callW (al := [(Value.agg #[(Value.int .i64 m), (Value.int .i64 s)]), (Value.bool false)]) rfl rfl cb46 (Calls.into (n := 11) (al := [(Value.agg #[(Value.int .i64 m), (Value.int .i64 s)]), (Value.bool false)]) Try.func46 rfl Try.ntmps46 rfl rfl ?_))
  refine C_seq (fun K40_ hK40_ => ?_)
  refine C_reg ?_
  refine S_list (T_box (v := (Value.agg #[(Value.int .i64 m), (Value.int .i64 s)])) rfl H37_ ?_)
  intro b41_ w42_ S44_ H43_
  replace H43_ : Holds w42_ (cl b41_ 61 [(Value.int .i64 m), (Value.int .i64 s)] :: cl b30_ 61 [(Value.int .i64 m), (Value.int .i64 s)] :: cl b25_ 23 [(Value.int .i64 m), (Value.int .i64 s)] :: cl b18_ 5 (List.replicate 18 (Value.int .u8 0)) :: ro R :: cl b8_ 5 (List.replicate 18 (.int .u8 0)) :: cl b2_ 23 [(Value.int .i64 m), (Value.int .i64 s)] :: F) := H43_
  have S45_ := Same.trans S39_ S44_
  refine S_list (T_alloc z82 H43_ ?_)
  intro b46_ w47_ S49_ H48_
  replace H48_ : Holds w47_ (cl b46_ 82 [(Value.int .i64 0), (Value.int .i64 0), (Value.bool false)] :: cl b41_ 61 [(Value.int .i64 m), (Value.int .i64 s)] :: cl b30_ 61 [(Value.int .i64 m), (Value.int .i64 s)] :: cl b25_ 23 [(Value.int .i64 m), (Value.int .i64 s)] :: cl b18_ 5 (List.replicate 18 (Value.int .u8 0)) :: ro R :: cl b8_ 5 (List.replicate 18 (.int .u8 0)) :: cl b2_ 23 [(Value.int .i64 m), (Value.int .i64 s)] :: F) := H48_
  have S50_ := Same.trans S45_ S49_
  refine wpList_nil ?_
  refine (X_then (hK40_ _ _ ?_))
  clear hK40_
  refine C_seq (fun K51_ hK51_ => ?_)
  refine C_reg ?_
  refine S_list (T_val (v := (Value.pointer (some ⟨b41_, 0, none⟩))) (by kernel_rfl) ?_)
  refine S_list (T_val (v := (Value.int .i64 m)) (x_load1 rfl Try.underlying2 rfl ((Holds.rd H48_ 1 rfl) 0 (Value.int .i64 m) rfl)) ?_)
  refine S_list (T_val (v := (Value.pointer (some ⟨b41_, 1, none⟩))) (by kernel_rfl) ?_)
  refine S_list (T_val (v := (Value.int .i64 s)) (x_load1 rfl Try.underlying2 rfl ((Holds.rd H48_ 1 rfl) 1 (Value.int .i64 s) rfl)) ?_)
  refine S_list (T_val (v := (Value.bool false)) (x_move rfl) ?_)
  have H52_ : Holds w47_ (ro R :: cl b46_ 82 [(Value.int .i64 0), (Value.int .i64 0), (Value.bool false)] :: cl b41_ 61 [(Value.int .i64 m), (Value.int .i64 s)] :: cl b30_ 61 [(Value.int .i64 m), (Value.int .i64 s)] :: cl b25_ 23 [(Value.int .i64 m), (Value.int .i64 s)] :: cl b18_ 5 (List.replicate 18 (Value.int .u8 0)) :: cl b8_ 5 (List.replicate 18 (.int .u8 0)) :: cl b2_ 23 [(Value.int .i64 m), (Value.int .i64 s)] :: F) := (Holds.bring H48_ 5 rfl)
  refine S_list (T_call (al := [(Value.int .i64 m), (Value.int .i64 s), (Value.bool false)]) (pre := []) (F := cl b46_ 82 [(Value.int .i64 0), (Value.int .i64 0), (Value.bool false)] :: cl b41_ 61 [(Value.int .i64 m), (Value.int .i64 s)] :: cl b30_ 61 [(Value.int .i64 m), (Value.int .i64 s)] :: cl b25_ 23 [(Value.int .i64 m), (Value.int .i64 s)] :: cl b18_ 5 (List.replicate 18 (Value.int .u8 0)) :: cl b8_ 5 (List.replicate 18 (.int .u8 0)) :: cl b2_ 23 [(Value.int .i64 m), (Value.int .i64 s)] :: F) rfl rfl cb57 (newBucketKey R m s false) H52_ ?_)
  rintro v56_ p57_ w53_ ⟨rfl, rfl⟩ S55_ H54_
  replace H54_ : Holds w53_ (ro R :: cl b46_ 82 [(Value.int .i64 0), (Value.int .i64 0), (Value.bool false)] :: cl b41_ 61 [(Value.int .i64 m), (Value.int .i64 s)] :: cl b30_ 61 [(Value.int .i64 m), (Value.int .i64 s)] :: cl b25_ 23 [(Value.int .i64 m), (Value.int .i64 s)] :: cl b18_ 5 (List.replicate 18 (Value.int .u8 0)) :: cl b8_ 5 (List.replicate 18 (.int .u8 0)) :: cl b2_ 23 [(Value.int .i64 m), (Value.int .i64 s)] :: F) := H54_
  have S58_ := Same.trans S50_ S55_
  refine S_list0 (T_storeN (vs := [(Value.int .i64 m), (Value.int .i64 s), (Value.bool false)]) rfl rfl z82 rfl (by simp [Value.oneCell']) H54_ 1 rfl (Nat.le_of_ble_eq_true (by rfl)) ?_)
  intro w59_ S61_ H60_
  replace H60_ : Holds w59_ (ro R :: cl b46_ 82 [(Value.int .i64 m), (Value.int .i64 s), (Value.bool false)] :: cl b41_ 61 [(Value.int .i64 m), (Value.int .i64 s)] :: cl b30_ 61 [(Value.int .i64 m), (Value.int .i64 s)] :: cl b25_ 23 [(Value.int .i64 m), (Value.int .i64 s)] :: cl b18_ 5 (List.replicate 18 (Value.int .u8 0)) :: cl b8_ 5 (List.replicate 18 (.int .u8 0)) :: cl b2_ 23 [(Value.int .i64 m), (Value.int .i64 s)] :: F) := H60_
  have S62_ := Same.trans S58_ S61_
  refine wpList_nil ?_
  refine (X_then (hK51_ _ _ ?_))
  clear hK51_
  refine C_ret ?_
  refine R_any (v := (Value.agg #[(Value.int .i64 m), (Value.int .i64 s), (Value.bool false)])) (run_results1 rfl ⟨_, rfl, load_resN Try.underlying82 rfl z82 rfl (vs := [(Value.int .i64 m), (Value.int .i64 s), (Value.bool false)]) (Holds.cl_cells H60_ 1 rfl 0 rfl)⟩) ⟨_, rfl, ?_⟩
  refine S_list (T_val (v := (Value.slice (some ⟨b18_, 0, none⟩) 18 18)) (x_move rfl) ?_)
  have H64_ : Holds w59_ (ro R :: cl b18_ 5 (List.replicate 18 (Value.int .u8 0)) :: cl b46_ 82 [(Value.int .i64 m), (Value.int .i64 s), (Value.bool false)] :: cl b41_ 61 [(Value.int .i64 m), (Value.int .i64 s)] :: cl b30_ 61 [(Value.int .i64 m), (Value.int .i64 s)] :: cl b25_ 23 [(Value.int .i64 m), (Value.int .i64 s)] :: cl b8_ 5 (List.replicate 18 (.int .u8 0)) :: cl b2_ 23 [(Value.int .i64 m), (Value.int .i64 s)] :: F) := (Holds.bring (Holds.bring H60_ 5 rfl) 1 rfl)
  refine S_list (T_call (al := [(Value.agg #[(Value.int .i64 m), (Value.int .i64 s), (Value.bool false)]), (Value.slice (some ⟨b18_, 0, none⟩) 18 18)]) (pre := [cl b18_ 5 (List.replicate 18 (Value.int .u8 0))]) (F := cl b46_ 82 [(Value.int .i64 m), (Value.int .i64 s), (Value.bool false)] :: cl b41_ 61 [(Value.int .i64 m), (Value.int .i64 s)] :: cl b30_ 61 [(Value.int .i64 m), (Value.int .i64 s)] :: cl b25_ 23 [(Value.int .i64 m), (Value.int .i64 s)] :: cl b8_ 5 (List.replicate 18 (.int .u8 0)) :: cl b2_ 23 [(Value.int .i64 m), (Value.int .i64 s)] :: F) rfl rfl cb45 (bk18f R b18_ m s) H64_ ?_)
  rintro v68_ p69_ w65_ rfl S67_ H66_
  replace H66_ : Holds w65_ (ro R :: sl 5 1 v68_ 18 (bytesV (rvb (IntKind.u64.wrap m) (IntKind.u64.wrap s) ++ [0])) :: cl b46_ 82 [(Value.int .i64 m), (Value.int .i64 s), (Value.bool false)] :: cl b41_ 61 [(Value.int .i64 m), (Value.int .i64 s)] :: cl b30_ 61 [(Value.int .i64 m), (Value.int .i64 s)] :: cl b25_ 23 [(Value.int .i64 m), (Value.int .i64 s)] :: cl b8_ 5 (List.replicate 18 (.int .u8 0)) :: cl b2_ 23 [(Value.int .i64 m), (Value.int .i64 s)] :: F) := H66_
  have S70_ := Same.trans S62_ S67_
  refine S_list (T_val (v := v68_) (x_assign rfl) ?_)
  refine wpList_nil ?_
  refine (X_then (hK23_ _ _ ?_))
  clear hK23_
  refine C_ret ?_
  refine R_any (v := v68_) (run_results1 rfl rfl) ?_
  have H71_ : Holds w65_ (ro R :: sl 5 1 v68_ 18 (bytesV (rvb (IntKind.u64.wrap m) (IntKind.u64.wrap s) ++ [0])) :: F) := (Holds.erase (Holds.erase (Holds.erase (Holds.erase (Holds.erase (Holds.erase (Holds.bring (Holds.bring H66_ 1 rfl) 1 rfl) 2) 2) 2) 2) 2) 2)
  exact ⟨_, [sl 5 1 v68_ 18 (bytesV (rvb (IntKind.u64.wrap m) (IntKind.u64.wrap s) ++ [0]))], rfl, rfl, S70_, H71_⟩

set_option maxHeartbeats 400000 in
theorem bucketBytesff (R : HP) (m s : Int) :
    Tri Try.prog 23 #[(Value.agg #[(Value.int .i64 m), (Value.int .i64 s)]), (Value.bool false), (Value.bool false)] R [] (fun v post => post = [sl 5 1 v 17 (bytesV (rvb (IntKind.u64.wrap m) (IntKind.u64.wrap s)))]) := by
  refine Tri.into (n := 17) (al := [(Value.agg #[(Value.int .i64 m), (Value.int .i64 s)]), (Value.bool false), (Value.bool false)]) Try.func23 rfl Try.ntmps23 rfl rfl fun w F H => ?_
  replace H : Holds w (ro R :: F) := H
  refine C_seq (fun K1_ hK1_ => ?_)
  refine C_reg ?_
  refine S_list (T_box (v := (Value.agg #[(Value.int .i64 m), (Value.int .i64 s)])) rfl H ?_)
  intro b2_ w3_ S5_ H4_
  replace H4_ : Holds w3_ (cl b2_ 23 [(Value.int .i64 m), (Value.int .i64 s)] :: ro R :: F) := H4_
  have S6_ := Same.trans (Same.refl w) S5_
  refine S_list (T_val (v := (Value.slice none 0 0)) (x_assign rfl) ?_)
  refine wpList_nil ?_
  refine (X_then (hK1_ _ _ ?_))
  clear hK1_
  refine C_seq (fun K7_ hK7_ => ?_)
  refine C_reg ?_
  have H9_ : Holds w3_ (ro R :: cl b2_ 23 [(Value.int .i64 m), (Value.int .i64 s)] :: F) := (Holds.bring H4_ 1 rfl)
  refine S_list (T_call (al := []) (pre := []) (F := cl b2_ 23 [(Value.int .i64 m), (Value.int .i64 s)] :: F) rfl rfl cb32 (newRevBytes R) H9_ ?_)
  rintro v13_ p14_ w10_ ⟨b8_, rfl, rfl⟩ S12_ H11_
  replace H11_ : Holds w10_ (ro R :: cl b8_ 5 (List.replicate 18 (.int .u8 0)) :: cl b2_ 23 [(Value.int .i64 m), (Value.int .i64 s)] :: F) := H11_
  have S15_ := Same.trans S6_ S12_
  refine S_list (T_val (v := (Value.slice (some ⟨b8_, 0, none⟩) 17 18)) (x_assign rfl) ?_)
  refine wpList_nil ?_
  refine (X_then (hK7_ _ _ ?_))
  clear hK7_
  refine C_seq (fun K16_ hK16_ => ?_)
  refine C_seq (fun K17_ hK17_ => ?_)
  refine C_reg ?_
  refine S_list (T_val (v := (Value.bool false)) (x_move rfl) ?_)
  refine wpList_nil ?_
  refine (X_then (hK17_ _ _ ?_))
  clear hK17_
  refine C_condF rfl ?_
  refine C_skip (X_then (hK16_ _ _ ?_))
  clear hK16_
  refine C_seq (fun K18_ hK18_ => ?_)
  refine C_reg ?_
  refine S_list (T_val (v := (Value.agg #[(Value.int .i64 m), (Value.int .i64 s)])) (x_loadN (vs := [(Value.int .i64 m), (Value.int .i64 s)]) rfl Try.underlying23 rfl z23 rfl (Rd.cells (Holds.rd H11_ 2 rfl) 0 rfl)) ?_)
  refine S_list (T_callW (al := [(Value.agg #[(Value.int .i64 m), (Value.int .i64 s)])]) rfl rfl cb31 (Calls.into (n := 8) (al := [(Value.agg #[(Value.int .i64 m), (Value.int .i64 s)])]) Try.func31 rfl Try.ntmps31 rfl rfl ?_))
  refine C_seq (fun K19_ hK19_ => ?_)
  refine C_reg ?_
  refine S_list (T_box (v := (Value.agg #[(Value.int .i64 m), (Value.int .i64 s)])) rfl H11_ ?_)
  intro b20_ w21_ S23_ H22_
  replace H22_ : Holds w21_ (cl b20_ 23 [(Value.int .i64 m), (Value.int .i64 s)] :: ro R :: cl b8_ 5 (List.replicate 18 (.int .u8 0)) :: cl b2_ 23 [(Value.int .i64 m), (Value.int .i64 s)] :: F) := H22_
  have S24_ := Same.trans S15_ S23_
  refine S_list (T_alloc z61 H22_ ?_)
  intro b25_ w26_ S28_ H27_
  replace H27_ : Holds w26_ (cl b25_ 61 [(Value.int .i64 0), (Value.int .i64 0)] :: cl b20_ 23 [(Value.int .i64 m), (Value.int .i64 s)] :: ro R :: cl b8_ 5 (List.replicate 18 (.int .u8 0)) :: cl b2_ 23 [(Value.int .i64 m), (Value.int .i64 s)] :: F) := H27_
  have S29_ := Same.trans S24_ S28_
  refine wpList_nil ?_
  refine (X_then (hK19_ _ _ ?_))
  clear hK19_
  refine C_seq (fun K30_ hK30_ => ?_)
  refine C_reg ?_
  refine S_list (T_val (v := (Value.pointer (some ⟨b20_, 0, none⟩))) (by kernel_rfl) ?_)
  refine S_list (T_val (v := (Value.int .i64 m)) (x_load1 rfl Try.underlying2 rfl ((Holds.rd H27_ 1 rfl) 0 (Value.int .i64 m) rfl)) ?_)
  refine S_list (T_val (v := (Value.pointer (some ⟨b20_, 1, none⟩))) (by kernel_rfl) ?_)
  refine S_list (T_val (v := (Value.int .i64 s)) (x_load1 rfl Try.underlying2 rfl ((Holds.rd H27_ 1 rfl) 1 (Value.int .i64 s) rfl)) ?_)
  refine S_list (T_val (v := (Value.agg #[(Value.int .i64 m), (Value.int .i64 s)])) (by kernel_rfl) ?_)
  refine S_list0 (T_storeN (vs := [(Value.int .i64 m), (Value.int .i64 s)]) rfl rfl z61 rfl (by simp [Value.oneCell']) H27_ 0 rfl (Nat.le_of_ble_eq_true (by rfl)) ?_)
  intro w31_ S33_ H32_
  replace H32_ : Holds w31_ (cl b25_ 61 [(Value.int .i64 m), (Value.int .i64 s)] :: cl b20_ 23 [(Value.int .i64 m), (Value.int .i64 s)] :: ro R :: cl b8_ 5 (List.replicate 18 (.int .u8 0)) :: cl b2_ 23 [(Value.int .i64 m), (Value.int .i64 s)] :: F) := H32_
  have S34_ := Same.trans S29_ S33_
  refine wpList_nil ?_
  refine (X_then (hK30_ _ _ ?_))
  clear hK30_
  refine C_ret ?_
  refine R_any (v := (Value.agg #[(Value.int .i64 m), (Value.int .i64 s)])) (run_results1 rfl ⟨_, rfl, load_resN Try.underlying61 rfl z61 rfl (vs := [(Value.int .i64 m), (Value.int .i64 s)]) (Holds.cl_cells H32_ 0 rfl 0 rfl)⟩) ⟨_, rfl, ?_⟩
  refine S_list (T_val (v := (Value.bool false)) (x_move rfl) ?_)
  refine S_list (T_callW (al := [(Value.agg #[(Value.int .i64 m), (Value.int .i64 s)]), (Value.bool false)]) rfl rfl cb46 (Calls.into (n := 11) (al := [(Value.agg #[(Value.int .i64 m), (Value.int .i64 s)]), (Value.bool false)]) Try.func46 rfl Try.ntmps46 rfl rfl ?_))
  refine C_seq (fun K35_ hK35_ => ?_)
  refine C_reg ?_
  refine S_list (T_box (v := (Value.agg #[(Value.int .i64 m), (Value.int .i64 s)])) rfl H32_ ?_)
  intro b36_ w37_ S39_ H38_
  replace H38_ : Holds w37_ (cl b36_ 61 [(Value.int .i64 m), (Value.int .i64 s)] :: cl b25_ 61 [(Value.int .i64 m), (Value.int .i64 s)] :: cl b20_ 23 [(Value.int .i64 m), (Value.int .i64 s)] :: ro R :: cl b8_ 5 (List.replicate 18 (.int .u8 0)) :: cl b2_ 23 [(Value.int .i64 m), (Value.int .i64 s)] :: F) := H38_
  have S40_ := Same.trans S34_ S39_
  refine S_list (T_alloc z82 H38_ ?_)
  intro b41_ w42_ S44_ H43_
  replace H43_ : Holds w42_ (cl b41_ 82 [(Value.int .i64 0), (Value.int .i64 0), (Value.bool false)] :: cl b36_ 61 [(Value.int .i64 m), (Value.int .i64 s)] :: cl b25_ 61 [(Value.int .i64 m), (Value.int .i64 s)] :: cl b20_ 23 [(Value.int .i64 m), (Value.int .i64 s)] :: ro R :: cl b8_ 5 (List.replicate 18 (.int .u8 0)) :: cl b2_ 23 [(Value.int .i64 m), (Value.int .i64 s)] :: F) := H43_
  have S45_ := Same.trans S40_ S44_
  refine wpList_nil ?_
  refine (X_then (hK35_ _ _ ?_))
  clear hK35_
  refine C_seq (fun K46_ hK46_ => ?_)
  refine C_reg ?_
  refine S_list (T_val (v := (Value.pointer (some ⟨b36_, 0, none⟩))) (by kernel_rfl) ?_)
  refine S_list (T_val (v := (Value.int .i64 m)) (x_load1 rfl Try.underlying2 rfl ((Holds.rd H43_ 1 rfl) 0 (Value.int .i64 m) rfl)) ?_)
  refine S_list (T_val (v := (Value.pointer (some ⟨b36_, 1, none⟩))) (by kernel_rfl) ?_)
  refine S_list (T_val (v := (Value.int .i64 s)) (x_load1 rfl Try.underlying2 rfl ((Holds.rd H43_ 1 rfl) 1 (Value.int .i64 s) rfl)) ?_)
  refine S_list (T_val (v := (Value.bool false)) (x_move rfl) ?_)
  have H47_ : Holds w42_ (ro R :: cl b41_ 82 [(Value.int .i64 0), (Value.int .i64 0), (Value.bool false)] :: cl b36_ 61 [(Value.int .i64 m), (Value.int .i64 s)] :: cl b25_ 61 [(Value.int .i64 m), (Value.int .i64 s)] :: cl b20_ 23 [(Value.int .i64 m), (Value.int .i64 s)] :: cl b8_ 5 (List.replicate 18 (.int .u8 0)) :: cl b2_ 23 [(Value.int .i64 m), (Value.int .i64 s)] :: F) := (Holds.bring H43_ 4 rfl)
  refine S_list (T_call (al := [(Value.int .i64 m), (Value.int .i64 s), (Value.bool false)]) (pre := []) (F := cl b41_ 82 [(Value.int .i64 0), (Value.int .i64 0), (Value.bool false)] :: cl b36_ 61 [(Value.int .i64 m), (Value.int .i64 s)] :: cl b25_ 61 [(Value.int .i64 m), (Value.int .i64 s)] :: cl b20_ 23 [(Value.int .i64 m), (Value.int .i64 s)] :: cl b8_ 5 (List.replicate 18 (.int .u8 0)) :: cl b2_ 23 [(Value.int .i64 m), (Value.int .i64 s)] :: F) rfl rfl cb57 (newBucketKey R m s false) H47_ ?_)
  rintro v51_ p52_ w48_ ⟨rfl, rfl⟩ S50_ H49_
  replace H49_ : Holds w48_ (ro R :: cl b41_ 82 [(Value.int .i64 0), (Value.int .i64 0), (Value.bool false)] :: cl b36_ 61 [(Value.int .i64 m), (Value.int .i64 s)] :: cl b25_ 61 [(Value.int .i64 m), (Value.int .i64 s)] :: cl b20_ 23 [(Value.int .i64 m), (Value.int .i64 s)] :: cl b8_ 5 (List.replicate 18 (.int .u8 0)) :: cl b2_ 23 [(Value.int .i64 m), (Value.int .i64 s)] :: F) := H49_
  have S53_ := Same.trans S45_ S50_
  refine S_list0 (T_storeN (vs := [(Value.int .i64 m), (Value.int .i64 s), (Value.bool false)]) rfl rfl z82 rfl (by simp [Value.oneCell']) H49_ 1 rfl (Nat.le_of_ble_eq_true (by rfl)) ?_)
  intro w54_ S56_ H55_
  replace H55_ : Holds w54_ (ro R :: cl b41_ 82 [(Value.int .i64 m), (Value.int .i64 s), (Value.bool false)] :: cl b36_ 61 [(Value.int .i64 m), (Value.int .i64 s)] :: cl b25_ 61 [(Value.int .i64 m), (Value.int .i64 s)] :: cl b20_ 23 [(Value.int .i64 m), (Value.int .i64 s)] :: cl b8_ 5 (List.replicate 18 (.int .u8 0)) :: cl b2_ 23 [(Value.int .i64 m), (Value.int .i64 s)] :: F) := H55_
  have S57_ := Same.trans S53_ S56_
  refine wpList_nil ?_
  refine (X_then (hK46_ _ _ ?_))
  clear hK46_
  refine C_ret ?_
  refine R_any (v := (Value.agg #[(Value.int .i64 m), (Value.int .i64 s), (Value.bool false)])) (run_results1 rfl ⟨_, rfl, load_resN Try.underlying82 rfl z82 rfl (vs := [(Value.int .i64 m), (Value.int .i64 s), (Value.bool false)]) (Holds.cl_cells H55_ 1 rfl 0 rfl)⟩) ⟨_, rfl, ?_⟩
  refine S_list (T_val (v := (Value.slice (some ⟨b8_, 0, none⟩) 17 18)) (x_move rfl) ?_)
  have H59_ : Holds w54_ (ro R :: cl b8_ 5 (List.replicate 18 (.int .u8 0)) :: cl b41_ 82 [(Value.int .i64 m), (Value.int .i64 s), (Value.bool false)] :: cl b36_ 61 [(Value.int .i64 m), (Value.int .i64 s)] :: cl b25_ 61 [(Value.int .i64 m), (Value.int .i64 s)] :: cl b20_ 23 [(Value.int .i64 m), (Value.int .i64 s)] :: cl b2_ 23 [(Value.int .i64 m), (Value.int .i64 s)] :: F) := (Holds.bring (Holds.bring H55_ 5 rfl) 1 rfl)
  refine S_list (T_call (al := [(Value.agg #[(Value.int .i64 m), (Value.int .i64 s), (Value.bool false)]), (Value.slice (some ⟨b8_, 0, none⟩) 17 18)]) (pre := [cl b8_ 5 (List.replicate 18 (.int .u8 0))]) (F := cl b41_ 82 [(Value.int .i64 m), (Value.int .i64 s), (Value.bool false)] :: cl b36_ 61 [(Value.int .i64 m), (Value.int .i64 s)] :: cl b25_ 61 [(Value.int .i64 m), (Value.int .i64 s)] :: cl b20_ 23 [(Value.int .i64 m), (Value.int .i64 s)] :: cl b2_ 23 [(Value.int .i64 m), (Value.int .i64 s)] :: F) rfl rfl cb45 (bk17f R b8_ m s) H59_ ?_)
  rintro v63_ p64_ w60_ rfl S62_ H61_
  replace H61_ : Holds w60_ (ro R :: sl 5 1 v63_ 17 (bytesV (rvb (IntKind.u64.wrap m) (IntKind.u64.wrap s))) :: cl b41_ 82 [(Value.int .i64 m), (Value.int .i64 s), (Value.bool false)] :: cl b36_ 61 [(Value.int .i64 m), (Value.int .i64 s)] :: cl b25_ 61 [(Value.int .i64 m), (Value.int .i64 s)] :: cl b20_ 23 [(Value.int .i64 m), (Value.int .i64 s)] :: cl b2_ 23 [(Value.int .i64 m), (Value.int .i64 s)] :: F) := H61_
  have S65_ := Same.trans S57_ S62_
  refine S_list (T_val (v := v63_) (x_assign rfl) ?_)
  refine wpList_nil ?_
  refine (X_then (hK18_ _ _ ?_))
  clear hK18_
  refine C_ret ?_
  refine R_any (v := v63_) (run_results1 rfl rfl) ?_
  have H66_ : Holds w60_ (ro R :: sl 5 1 v63_ 17 (bytesV (rvb (IntKind.u64.wrap m) (IntKind.u64.wrap s))) :: F) := (Holds.erase (Holds.erase (Holds.erase (Holds.erase (Holds.erase (Holds.bring (Holds.bring H61_ 1 rfl) 1 rfl) 2) 2) 2) 2) 2)
  exact ⟨_, [sl 5 1 v63_ 17 (bytesV (rvb (IntKind.u64.wrap m) (IntKind.u64.wrap s)))], rfl, rfl, S65_, H66_⟩

set_option maxHeartbeats 400000 in
theorem rvMain (R : HP) (n : Int) :
    Tri Try.prog 10 #[(Value.int .i64 n)] R [] (fun v post => post = [sl 5 1 v 8 (bytesV (be8 (IntKind.u64.wrap n)))]) := by
  refine Tri.into (n := 18) (al := [(Value.int .i64 n)]) Try.func10 rfl Try.ntmps10 rfl rfl fun w F H => ?_
  replace H : Holds w (ro R :: F) := H
  refine C_seq (fun K1_ hK1_ => ?_)
  refine C_reg ?_
  refine S_list (T_val (v := (Value.slice none 0 0)) (x_assign rfl) ?_)
  refine wpList_nil ?_
  refine (X_then (hK1_ _ _ ?_))
  clear hK1_
  refine C_seq (fun K2_ hK2_ => ?_)
  refine C_reg ?_
  refine S_list (T_val (v := (Value.slice none 0 0)) (x_assign rfl) ?_)
  refine wpList_nil ?_
  refine (X_then (hK2_ _ _ ?_))
  clear hK2_
  refine C_seq (fun K3_ hK3_ => ?_)
  refine C_seq (fun K4_ hK4_ => ?_)
  refine C_reg ?_
  refine S_list (T_val (v := (Value.int .i64 56)) (x_assign rfl) ?_)
  refine wpList_nil ?_
  refine (X_then (hK4_ _ _ ?_))
  clear hK4_
  refine C_block ?_
  have H5_ : Holds w (ro R :: sl 5 1 (.slice none 0 0) 0 (bytesV ((be8 (IntKind.u64.wrap n)).take 0)) :: F) := (Holds.add_nil H 5 1).bring 1 rfl
  refine C_loop (γ := Nat × Value) (fun x a w1 => match x with | ⟨k, v⟩ => ∃ h : Env, a = mkA 18 (upd (upd (upd h 0 (Value.int .i64 n)) 3 v) 4 (Value.int .i64 (56 - 8 * (k : Int)))) [] ∧ Holds w1 (ro R :: sl 5 1 v k (bytesV ((be8 (IntKind.u64.wrap n)).take k)) :: F) ∧ Same w w1 ∧ (k ≤ 8)) (fun x => match x with | ⟨k, v⟩ => 8 - k) (⟨0, .slice none 0 0⟩) ⟨_, congrArg (fun e => mkA 18 e []) (ch (ch (ch rfl (by first | rfl | exact congrArg (Value.int _) (by omega))) (by first | rfl | exact congrArg (Value.int _) (by omega))) (by first | rfl | exact congrArg (Value.int _) (by omega))), H5_, (Same.refl w), by omega⟩ ?_
  rintro ⟨k, v⟩ _ w6_ ⟨h, rfl, H7_, S8_, hk⟩
  refine C_seq (fun K9_ hK9_ => ?_)
  refine C_seq (fun K10_ hK10_ => ?_)
  refine C_reg ?_
  refine S_list (T_val (v := (Value.int .i64 (56 - 8 * (k : Int)))) (x_move rfl) ?_)
  refine S_list (T_val (v := (Value.bool (decide (0 ≤ 56 - 8 * (k : Int))))) (x_bin rfl rfl rfl) ?_)
  refine wpList_nil ?_
  refine (X_then (hK10_ _ _ ?_))
  clear hK10_
  refine C_cond (b := decide (0 ≤ 56 - 8 * (k : Int))) rfl (fun c11_t => ?_) (fun c11_f => ?_)
  · have c11_tp : 0 ≤ 56 - 8 * (k : Int) := of_decide_eq_true c11_t
    refine C_skip (X_then (hK9_ _ _ ?_))
    clear hK9_
    refine C_seq (fun K12_ hK12_ => ?_)
    refine C_block ?_
    refine C_reg ?_
    refine S_list (T_val (v := v) (x_move rfl) ?_)
    refine S_list (T_val (v := (Value.int .i64 n)) (x_move rfl) ?_)
    refine S_list (T_val (v := (Value.int .u64 (IntKind.u64.wrap n))) (x_convI rfl Try.underlying2 Try.underlying64 rfl) ?_)
    refine S_list (T_val (v := (Value.int .i64 (56 - 8 * (k : Int)))) (x_move rfl) ?_)
    refine S_list (T_val (v := (Value.int .u64 ((IntKind.u64.wrap n) / 2 ^ (8 * (7 - k))))) (x_shr rfl rfl (by omega) (shr_main _ k (by omega))) ?_)
    refine S_list (T_val (v := (Value.int .u8 ((IntKind.u64.wrap n) / 2 ^ (8 * (7 - k)) % 256))) (x_convI rfl Try.underlying64 Try.underlying5 (wrap_u8 _)) ?_)
    refine S_list (T_new (obj := .cells #[(Value.int .u8 ((IntKind.u64.wrap n) / 2 ^ (8 * (7 - k)) % 256))] 5) (f := fun b => .slice (some ⟨b, 0, none⟩) 1 1) (A := fun b => cl b 5 [(Value.int .u8 ((IntKind.u64.wrap n) / 2 ^ (8 * (7 - k)) % 256))]) (by kernel_rfl) (fun l h => h.alloc _ _) H7_ ?_)
    intro b13_ w14_ S16_ H15_
    replace H15_ : Holds w14_ (cl b13_ 5 [(Value.int .u8 ((IntKind.u64.wrap n) / 2 ^ (8 * (7 - k)) % 256))] :: ro R :: sl 5 1 v k (bytesV ((be8 (IntKind.u64.wrap n)).take k)) :: F) := H15_
    have S17_ := Same.trans S8_ S16_
    refine S_list (T_append rfl rfl Try.underlying25 z5 rfl (by decide) H15_ 2 rfl (Holds.cl_src H15_ 0 rfl Try.underlying25 (by simp [Value.oneCell']) rfl) (by omega) ?_)
    intro v18_ w19_ S21_ H20_
    replace H20_ : Holds w19_ (cl b13_ 5 [(Value.int .u8 ((IntKind.u64.wrap n) / 2 ^ (8 * (7 - k)) % 256))] :: ro R :: sl 5 1 v18_ (k + 1) ((bytesV ((be8 (IntKind.u64.wrap n)).take k)) ++ [(Value.int .u8 ((IntKind.u64.wrap n) / 2 ^ (8 * (7 - k)) % 256))]) :: F) := H20_
    have S22_ := Same.trans S17_ S21_
    refine S_list (T_val (v := v18_) (x_assign rfl) ?_)
    refine wpList_nil ?_
    refine (X_blkN (X_then (hK12_ _ _ ?_)))
    clear hK12_
    refine C_reg ?_
    refine S_list (T_val (v := (Value.int .i64 (56 - 8 * (k : Int)))) (x_move rfl) ?_)
    refine S_list (T_val (v := (Value.int .i64 ((56 - 8 * (k : Int)) - 8))) (x_bin rfl rfl (ib_sub (IntWalk.i64_in _ (by omega)))) ?_)
    refine S_list (T_val (v := (Value.int .i64 ((56 - 8 * (k : Int)) - 8))) (x_assign rfl) ?_)
    refine wpList_nil ?_
    refine (X_then ?_)
    have H23_ : Holds w19_ (cl b13_ 5 [(Value.int .u8 ((IntKind.u64.wrap n) / 2 ^ (8 * (7 - k)) % 256))] :: ro R :: sl 5 1 v18_ (k + 1) (bytesV ((be8 (IntKind.u64.wrap n)).take (k + 1))) :: F) := cast2 (P := fun (c__ : List Value) (k__ : Nat) => Holds w19_ (cl b13_ 5 [(Value.int .u8 ((IntKind.u64.wrap n) / 2 ^ (8 * (7 - k)) % 256))] :: ro R :: sl 5 1 v18_ k__ c__ :: F)) (be8_take (IntKind.u64.wrap n) k (by omega) : (bytesV ((be8 (IntKind.u64.wrap n)).take k)) ++ [(Value.int .u8 ((IntKind.u64.wrap n) / 2 ^ (8 * (7 - k)) % 256))] = bytesV ((be8 (IntKind.u64.wrap n)).take (k + 1))) (rfl : k + 1 = k + 1) H20_
    have H24_ : Holds w19_ (ro R :: sl 5 1 v18_ (k + 1) (bytesV ((be8 (IntKind.u64.wrap n)).take (k + 1))) :: F) := (Holds.erase (Holds.bring (Holds.bring H23_ 2 rfl) 2 rfl) 2)
    exact ⟨⟨k + 1, v18_⟩, ⟨_, congrArg (fun e => mkA 18 e []) (ch (ch (ch rfl (by first | rfl | exact congrArg (Value.int _) (by omega))) (by first | rfl | exact congrArg (Value.int _) (by omega))) (by first | rfl | exact congrArg (Value.int _) (by omega))), H24_, S22_, by omega⟩, by first | omega | (simp; omega)⟩
  · have c11_fp : ¬ (0 ≤ 56 - 8 * (k : Int)) := of_decide_eq_false c11_f
    refine C_exit (X_thenX (X_thenX (X_blkHit ?_)))
    refine (X_then (hK3_ _ _ ?_))
    clear hK3_
    refine C_seq (fun K25_ hK25_ => ?_)
    refine C_reg ?_
    refine S_list (T_val (v := v) (x_move rfl) ?_)
    refine S_list (T_val (v := v) (x_assign rfl) ?_)
    refine wpList_nil ?_
    refine (X_then (hK25_ _ _ ?_))
    clear hK25_
    refine C_ret ?_
    refine R_any (v := v) (run_results1 rfl rfl) ?_
    have H26_ : Holds w6_ (ro R :: sl 5 1 v 8 (bytesV (be8 (IntKind.u64.wrap n))) :: F) := cast2 (P := fun (c__ : List Value) (k__ : Nat) => Holds w6_ (ro R :: sl 5 1 v k__ c__ :: F)) (by rw [show k = 8 by omega]; rfl : bytesV ((be8 (IntKind.u64.wrap n)).take k) = bytesV (be8 (IntKind.u64.wrap n))) (by omega : k = 8) H7_
    exact ⟨_, [sl 5 1 v 8 (bytesV (be8 (IntKind.u64.wrap n)))], rfl, rfl, S8_, H26_⟩

set_option maxHeartbeats 400000 in
theorem rvSameRS (R : HP) (u v : Value) (j k : Nat) (xs ys : List Int) (hu : RS R 1 u j (bytesV xs)) (hv : RS R 1 v k (bytesV ys)) :
    Tri Try.prog 8 #[u, v] R [] (fun r post => r = .bool ((strN xs).toList == (strN ys).toList) ∧ post = []) := by
  refine Tri.into (n := 10) (al := [u, v]) Try.func8 rfl Try.ntmps8 rfl rfl fun w F H => ?_
  replace H : Holds w (ro R :: F) := H
  refine C_seq (fun K1_ hK1_ => ?_)
  refine C_reg ?_
  refine S_list (T_val (v := (Value.bool false)) (x_assign rfl) ?_)
  refine wpList_nil ?_
  refine (X_then (hK1_ _ _ ?_))
  clear hK1_
  refine C_seq (fun K2_ hK2_ => ?_)
  refine C_reg ?_
  refine S_list (T_val (v := u) (x_move rfl) ?_)
  refine S_list (T_val (v := (Value.string (strN xs))) (x_b2sRS rfl hu (Holds.ro_at H 0 rfl) Try.underlying25 Try.underlying5 Try.underlying9) ?_)
  refine S_list (T_val (v := v) (x_move rfl) ?_)
  refine S_list (T_val (v := (Value.string (strN ys))) (x_b2sRS rfl hv (Holds.ro_at H 0 rfl) Try.underlying25 Try.underlying5 Try.underlying9) ?_)
  refine S_list (T_val (v := (Value.bool ((strN xs).toList == (strN ys).toList))) (x_str rfl rfl rfl (by decide)) ?_)
  refine S_list (T_val (v := (Value.bool ((strN xs).toList == (strN ys).toList))) (x_assign rfl) ?_)
  refine wpList_nil ?_
  refine (X_then (hK2_ _ _ ?_))
  clear hK2_
  refine C_ret ?_
  refine R_any (v := (Value.bool ((strN xs).toList == (strN ys).toList))) (run_results1 rfl rfl) ?_
  exact ⟨_, [], rfl, ⟨rfl, rfl⟩, (Same.refl w), H⟩
end Go.Proofs.Ytfdnfnjmphjdnaa
