/- What the functions over revisions come to: reading. -/
import Derived.Test.YtfdnfnjmphjdnaaRvA
import Derived.Test.YtfdnfnjmphjdnaaFine
set_option linter.unusedVariables false
set_option linter.unusedSimpArgs false
namespace Go.Proofs.Ytfdnfnjmphjdnaa
open Go Go.RowKit Gw

/-- The number that k bytes are, the greatest first. -/
def rdk (ns : List Int) (k : Nat) : Int := (ns.take k).foldl (fun a b => a * 256 + b) 0
theorem bytesV_get (ns : List Int) (k : Nat) (h : k < ns.length) : (bytesV ns)[k]? = some (.int .u8 (ns.getD k 0)) := by
  simp [bytesV, h]
theorem RCb_drop {R : HP} {b off : Nat} {ns : List Int} (h : RC R b off (bytesV ns)) (k : Nat) : RC R b (off + k) (bytesV (ns.drop k)) := by
  have := h.drop k
  unfold bytesV at this ⊢
  rwa [← List.map_drop] at this
theorem get_rng (ns : List Int) (hb : ∀ y ∈ ns, 0 ≤ y ∧ y < 256) (k : Nat) (h : k < ns.length) : 0 ≤ ns.getD k 0 ∧ ns.getD k 0 < 256 := by
  have : ns.getD k 0 = ns[k] := by simp [h]
  rw [this]
  exact hb _ (List.getElem_mem h)
theorem wrap_get (ns : List Int) (hb : ∀ y ∈ ns, 0 ≤ y ∧ y < 256) (k : Nat) (h : k < ns.length) : IntKind.u64.wrap (ns.getD k 0) = ns.getD k 0 := by
  have := get_rng ns hb k h
  exact IntWalk.u64_in _ (by omega)
theorem rdk_succ (ns : List Int) (k : Nat) (h : k < ns.length) : rdk ns (k + 1) = rdk ns k * 256 + ns.getD k 0 := by
  unfold rdk
  rw [List.take_succ_eq_append_getElem h, List.foldl_append]
  simp [h]
theorem rdk_rng (ns : List Int) (hb : ∀ y ∈ ns, 0 ≤ y ∧ y < 256) : ∀ k, k ≤ ns.length → 0 ≤ rdk ns k ∧ rdk ns k < 256 ^ k
  | 0, _ => by simp [rdk]
  | k + 1, h => by
    have ih := rdk_rng ns hb k (by omega)
    have hg := get_rng ns hb k (by omega)
    rw [rdk_succ ns k (by omega), Int.pow_succ]
    omega
theorem or_low (a b : Nat) (ha : a < 72057594037927936) (hb : b < 256) : (BitVec.ofNat 64 (a * 256) ||| BitVec.ofNat 64 b).toNat = a * 256 + b := by
  rw [BitVec.toNat_or, BitVec.toNat_ofNat, BitVec.toNat_ofNat, Nat.mod_eq_of_lt (by omega), Nat.mod_eq_of_lt (by omega)]
  have := Nat.two_pow_add_eq_or_of_lt (i := 8) hb a
  rw [Nat.mul_comm a 256]
  exact this.symm
theorem rdk_or (ns : List Int) (hb : ∀ y ∈ ns, 0 ≤ y ∧ y < 256) (k : Nat) (hk : (k : Int) < 8) (h : k < ns.length) :
    ibin .or .u64 (IntKind.u64.wrap (rdk ns k * 2 ^ (min (8 : Int).toNat (IntKind.bits .u64)))) (ns.getD k 0) = some (.int .u64 (rdk ns (k + 1))) := by
  have hr := rdk_rng ns hb k (by omega)
  have hg := get_rng ns hb k h
  have hp : (256 : Int) ^ k ≤ 256 ^ 7 := by
    have : (256 : Nat) ^ k ≤ 256 ^ 7 := Nat.pow_le_pow_right (by decide) (by omega)
    have e := Int.ofNat_le.2 this
    simpa [Int.natCast_pow] using e
  have e7 : (256 : Int) ^ 7 = 72057594037927936 := by decide
  have e8 : (2 : Int) ^ (min (8 : Int).toNat (IntKind.bits .u64)) = 256 := by decide
  rw [e8, IntWalk.u64_in _ (by omega)]
  obtain ⟨a, ha⟩ := Int.eq_ofNat_of_zero_le hr.1
  obtain ⟨b, hb'⟩ := Int.eq_ofNat_of_zero_le hg.1
  rw [rdk_succ ns k h, ha, hb']
  have ha' : a < 72057594037927936 := by omega
  have hb2 : b < 256 := by omega
  simp only [ibin]
  have e1 : BitVec.ofInt IntKind.u64.bits ((a : Int) * 256) = BitVec.ofNat 64 (a * 256) := by
    show BitVec.ofInt 64 _ = _
    rw [show ((a : Int) * 256) = ((a * 256 : Nat) : Int) by simp, BitVec.ofInt_natCast]
  have e2 : BitVec.ofInt IntKind.u64.bits (b : Int) = BitVec.ofNat 64 b := by
    show BitVec.ofInt 64 _ = _
    rw [BitVec.ofInt_natCast]
  rw [e1, e2]
  have e3 := or_low a b ha' hb2
  have e4 : (((BitVec.ofNat 64 (a * 256) ||| BitVec.ofNat 64 b).toNat : Nat) : Int) = (a : Int) * 256 + b := by rw [e3]; simp
  congr 2
  refine Eq.trans (congrArg (IntKind.wrap .u64) e4) ?_
  exact IntWalk.u64_in _ (by omega)
theorem wrap_u64_lt (n : Int) : IntKind.u64.wrap n < 18446744073709551616 := by
  have e1 : (2 : Int) ^ 64 = 18446744073709551616 := by decide
  simp only [IntKind.wrap, IntKind.bits, IntKind.signed, e1, Bool.false_and, Bool.false_eq_true, if_false]
  omega
theorem wrap_back (m : Int) (h : 0 ≤ m) (h2 : m < 9223372036854775808) : IntKind.i64.wrap (IntKind.u64.wrap m) = m := by
  rw [IntWalk.u64_in m (by omega)]
  exact IntWalk.i64_in m (by omega)
theorem be8_rd (u : Int) (t : List Int) (h : 0 ≤ u) (h2 : u < 18446744073709551616) : rdk (be8 u ++ t) 8 = u := by
  simp only [rdk, be8, List.range, List.range.loop, List.map_cons, List.map_nil, List.cons_append, List.nil_append, List.take_succ_cons, List.take_zero, List.foldl_cons, List.foldl_nil, Nat.sub_zero, Nat.reduceMul, Nat.reduceSub, Int.reducePow]
  omega
theorem rd_fst (u v : Int) (t : List Int) (h : 0 ≤ u) (h2 : u < 18446744073709551616) : rdk (rvb u v ++ t) 8 = u := by
  unfold rvb
  rw [List.append_assoc, List.append_assoc]
  exact be8_rd u _ h h2
theorem rd_snd (u v : Int) (t : List Int) (h : 0 ≤ v) (h2 : v < 18446744073709551616) : rdk ((rvb u v ++ t).drop 9) 8 = v := by
  have : (rvb u v ++ t).drop 9 = be8 v ++ t := by simp [rvb, be8, List.range, List.range.loop]
  rw [this]
  exact be8_rd v _ h h2
theorem be8_rng (u : Int) : ∀ y ∈ be8 u, 0 ≤ y ∧ y < 256 := by
  intro y hy
  obtain ⟨k, _, rfl⟩ := List.mem_map.1 hy
  omega
theorem rvb_rng (u v : Int) (t : List Int) (ht : ∀ y ∈ t, 0 ≤ y ∧ y < 256) : ∀ y ∈ rvb u v ++ t, 0 ≤ y ∧ y < 256 := by
  intro y hy
  simp only [rvb, List.mem_append, List.mem_singleton] at hy
  rcases hy with ((hy | rfl) | hy) | hy
  · exact be8_rng u y hy
  · decide
  · exact be8_rng v y hy
  · exact ht y hy

set_option maxHeartbeats 400000 in
theorem uint64 (R : HP) (b off len cap : Nat) (ns : List Int) (x : Int) (hc : RC R b off (bytesV ns)) (hn : 8 ≤ ns.length) (hl : 8 ≤ len) (hb : ∀ y ∈ ns, 0 ≤ y ∧ y < 256) (hx : rdk ns 8 = x) :
    Tri Try.prog 67 #[(Value.slice (some ⟨b, off, none⟩) len cap)] R [] (fun v post => v = .int .u64 x ∧ post = []) := by
  refine Tri.into (n := 18) (al := [(Value.slice (some ⟨b, off, none⟩) len cap)]) Try.func67 rfl Try.ntmps67 rfl rfl fun w F H => ?_
  replace H : Holds w (ro R :: F) := H
  refine C_seq (fun K1_ hK1_ => ?_)
  refine C_reg ?_
  refine S_list (T_val (v := (Value.int .u64 0)) (x_assign rfl) ?_)
  refine wpList_nil ?_
  refine (X_then (hK1_ _ _ ?_))
  clear hK1_
  refine C_seq (fun K2_ hK2_ => ?_)
  refine C_reg ?_
  refine S_list (T_val (v := (Value.int .u64 0)) (x_assign rfl) ?_)
  refine wpList_nil ?_
  refine (X_then (hK2_ _ _ ?_))
  clear hK2_
  refine C_seq (fun K3_ hK3_ => ?_)
  refine C_seq (fun K4_ hK4_ => ?_)
  refine C_reg ?_
  refine S_list (T_val (v := (Value.int .i64 0)) (x_assign rfl) ?_)
  refine wpList_nil ?_
  refine (X_then (hK4_ _ _ ?_))
  clear hK4_
  refine C_block ?_
  refine C_loop (γ := Nat) (fun k a w1 => ∃ h : Env, a = mkA 18 (upd (upd (upd h 0 (Value.slice (some ⟨b, off, none⟩) len cap)) 3 (Value.int .u64 (rdk ns k))) 4 (Value.int .i64 (k : Int))) [] ∧ Holds w1 (ro R :: F) ∧ Same w w1 ∧ (k ≤ 8)) (fun k => 8 - k) (0) ⟨_, congrArg (fun e => mkA 18 e []) (ch (ch (ch rfl (by first | rfl | exact congrArg (Value.int _) (by omega))) (by first | rfl | exact congrArg (Value.int _) (by omega))) (by first | rfl | exact congrArg (Value.int _) (by omega))), H, (Same.refl w), by omega⟩ ?_
  rintro k _ w5_ ⟨h, rfl, H6_, S7_, hk⟩
  refine C_seq (fun K8_ hK8_ => ?_)
  refine C_seq (fun K9_ hK9_ => ?_)
  refine C_reg ?_
  refine S_list (T_val (v := (Value.int .i64 (k : Int))) (x_move rfl) ?_)
  refine S_list (T_val (v := (Value.bool (decide ((k : Int) < 8)))) (x_bin rfl rfl rfl) ?_)
  refine wpList_nil ?_
  refine (X_then (hK9_ _ _ ?_))
  clear hK9_
  refine C_cond (b := decide ((k : Int) < 8)) rfl (fun c10_t => ?_) (fun c10_f => ?_)
  · have c10_tp : (k : Int) < 8 := of_decide_eq_true c10_t
    refine C_skip (X_then (hK8_ _ _ ?_))
    clear hK8_
    refine C_seq (fun K11_ hK11_ => ?_)
    refine C_block ?_
    refine C_reg ?_
    refine S_list (T_val (v := (Value.int .u64 (rdk ns k))) (x_move rfl) ?_)
    refine S_list (T_val (v := (Value.int .u64 (IntKind.u64.wrap ((rdk ns k) * 2 ^ (min (8 : Int).toNat (IntKind.bits .u64)))))) (x_shl rfl rfl (by omega) (rfl)) ?_)
    refine S_list (T_val (v := (Value.slice (some ⟨b, off, none⟩) len cap)) (x_move rfl) ?_)
    refine S_list (T_val (v := (Value.int .i64 (k : Int))) (x_move rfl) ?_)
    refine S_list (T_val (v := (Value.pointer (some ⟨b, off + k, none⟩))) (x_indexAddr rfl rfl Try.underlying25 z5 (by omega) (by omega) (by omega : _ = k) (by first | rfl | simp | (congr 1; omega))) ?_)
    refine S_list (T_val (v := (Value.int .u8 (ns.getD k 0))) (x_load1 rfl Try.underlying5 rfl (RC.cell hc (Holds.ro_at H6_ 0 rfl) (bytesV_get ns k (by omega)))) ?_)
    refine S_list (T_val (v := (Value.int .u64 (ns.getD k 0))) (x_convI rfl Try.underlying5 Try.underlying64 (wrap_get ns hb k (by omega))) ?_)
    refine S_list (T_val (v := (Value.int .u64 (rdk ns (k + 1)))) (x_bin rfl rfl (rdk_or ns hb k (by omega) (by omega))) ?_)
    refine S_list (T_val (v := (Value.int .u64 (rdk ns (k + 1)))) (x_assign rfl) ?_)
    refine wpList_nil ?_
    refine (X_blkN (X_then (hK11_ _ _ ?_)))
    clear hK11_
    refine C_reg ?_
    refine S_list (T_val (v := (Value.int .i64 (k : Int))) (x_move rfl) ?_)
    refine S_list (T_val (v := (Value.int .i64 ((k : Int) + 1))) (x_bin rfl rfl (ib_add (IntWalk.i64_in _ (by omega)))) ?_)
    refine S_list (T_val (v := (Value.int .i64 ((k : Int) + 1))) (x_assign rfl) ?_)
    refine wpList_nil ?_
    refine (X_then ?_)
    exact ⟨k + 1, ⟨_, congrArg (fun e => mkA 18 e []) (ch (ch (ch rfl (by first | rfl | exact congrArg (Value.int _) (by omega))) (by first | rfl | exact congrArg (Value.int _) (by omega))) (by first | rfl | exact congrArg (Value.int _) (by omega))), H6_, S7_, by omega⟩, by first | omega | (simp; omega)⟩
  · have c10_fp : ¬ ((k : Int) < 8) := of_decide_eq_false c10_f
    refine C_exit (X_thenX (X_thenX (X_blkHit ?_)))
    refine (X_then (hK3_ _ _ ?_))
    clear hK3_
    refine C_seq (fun K12_ hK12_ => ?_)
    refine C_reg ?_
    refine S_list (T_val (v := (Value.int .u64 (rdk ns k))) (x_move rfl) ?_)
    refine S_list (T_val (v := (Value.int .u64 (rdk ns k))) (x_assign rfl) ?_)
    refine wpList_nil ?_
    refine (X_then (hK12_ _ _ ?_))
    clear hK12_
    refine C_ret ?_
    refine R_any (v := (Value.int .u64 (rdk ns k))) (run_results1 rfl rfl) ?_
    exact ⟨_, [], rfl, ⟨by rw [← hx, show k = 8 by omega], rfl⟩, S7_, H6_⟩

set_option maxHeartbeats 400000 in
theorem b2bk17 (R : HP) (v : Value) (m s : Int) (hm : 0 ≤ m) (hm2 : m < 9223372036854775808) (hs : 0 ≤ s) (hs2 : s < 9223372036854775808) (hv : RS R 1 v 17 (bytesV (rvb (IntKind.u64.wrap m) (IntKind.u64.wrap s) ++ []))) :
    Tri Try.prog 49 #[v] R [] (fun r post => r = .agg #[.int .i64 m, .int .i64 s, .bool false] ∧ post = []) := by
  obtain ⟨b, off, cap, rfl, hcap, hc⟩ := RS.at_ hv (by omega)
  refine Tri.into (n := 40) (al := [(Value.slice (some ⟨b, off, none⟩) 17 cap)]) Try.func49 rfl Try.ntmps49 rfl rfl fun w F H => ?_
  replace H : Holds w (ro R :: F) := H
  refine C_seq (fun K1_ hK1_ => ?_)
  refine C_reg ?_
  refine S_list (T_alloc z82 H ?_)
  intro b2_ w3_ S5_ H4_
  replace H4_ : Holds w3_ (cl b2_ 82 [(Value.int .i64 0), (Value.int .i64 0), (Value.bool false)] :: ro R :: F) := H4_
  have S6_ := Same.trans (Same.refl w) S5_
  refine wpList_nil ?_
  refine (X_then (hK1_ _ _ ?_))
  clear hK1_
  refine C_seq (fun K7_ hK7_ => ?_)
  refine C_seq (fun K8_ hK8_ => ?_)
  refine C_reg ?_
  refine S_list (T_val (v := (Value.slice (some ⟨b, off, none⟩) 17 cap)) (x_move rfl) ?_)
  refine S_list (T_val (v := (Value.int .i64 17)) (x_lenS rfl Try.underlying25) ?_)
  refine S_list (T_val (v := (Value.bool false)) (x_bin rfl rfl rfl) ?_)
  refine S_list (T_val (v := (Value.bool false)) (x_move rfl) ?_)
  refine S_no (j := 3) (dj := 8) (b := false) rfl rfl rfl (by decide) ?_
  refine S_no (j := 3) (dj := 8) (b := false) rfl rfl rfl (by decide) ?_
  refine S_no (j := 3) (dj := 8) (b := false) rfl rfl rfl (by decide) ?_
  refine S_list (T_pickF (v := (Value.bool false)) rfl rfl ?_)
  refine wpList_nil ?_
  refine (X_then (hK8_ _ _ ?_))
  clear hK8_
  refine C_condF rfl ?_
  refine C_skip (X_then (hK7_ _ _ ?_))
  clear hK7_
  refine C_seq (fun K9_ hK9_ => ?_)
  refine C_seq (fun K10_ hK10_ => ?_)
  refine C_reg ?_
  refine S_list (T_val (v := (Value.slice (some ⟨b, off, none⟩) 17 cap)) (x_move rfl) ?_)
  refine S_list (T_val (v := (Value.pointer (some ⟨b, off + 8, none⟩))) (x_indexAddr rfl rfl Try.underlying25 z5 (by omega) (by omega) (by omega : _ = 8) (by first | rfl | simp | (congr 1; omega))) ?_)
  refine S_list (T_val (v := (Value.int .u8 95)) (x_load1 rfl Try.underlying5 rfl (RC.cell hc (Holds.ro_at H4_ 1 rfl) (by kernel_rfl))) ?_)
  refine S_list (T_val (v := (Value.bool false)) (x_bin rfl rfl rfl) ?_)
  refine wpList_nil ?_
  refine (X_then (hK10_ _ _ ?_))
  clear hK10_
  refine C_condF rfl ?_
  refine C_skip (X_then (hK9_ _ _ ?_))
  clear hK9_
  refine C_seq (fun K11_ hK11_ => ?_)
  refine C_reg ?_
  refine S_list (T_val (v := (Value.slice (some ⟨b, off, none⟩) 17 cap)) (x_move rfl) ?_)
  refine S_list (T_val (v := (Value.slice (some ⟨b, off, none⟩) 8 cap)) (x_slice (l := 0) (h := 8) rfl Try.underlying25 z5 ⟨_, _, rfl, by omega, by omega, by omega⟩ ⟨_, _, rfl, by omega, by omega, by omega⟩ (by simp [Addr.add])) ?_)
  have H12_ : Holds w3_ (ro R :: cl b2_ 82 [(Value.int .i64 0), (Value.int .i64 0), (Value.bool false)] :: F) := (Holds.bring H4_ 1 rfl)
  refine S_list (T_call (al := [(Value.slice (some ⟨b, off, none⟩) 8 cap)]) (pre := []) (F := cl b2_ 82 [(Value.int .i64 0), (Value.int .i64 0), (Value.bool false)] :: F) rfl rfl cb67 (uint64 R b off 8 cap (rvb (IntKind.u64.wrap m) (IntKind.u64.wrap s) ++ []) (IntKind.u64.wrap m) hc (by simp [rvb, be8]) (by omega) (by exact rvb_rng _ _ _ (by decide)) (rd_fst _ _ _ (wrap_u64_nn _) (wrap_u64_lt _))) H12_ ?_)
  rintro v16_ p17_ w13_ ⟨rfl, rfl⟩ S15_ H14_
  replace H14_ : Holds w13_ (ro R :: cl b2_ 82 [(Value.int .i64 0), (Value.int .i64 0), (Value.bool false)] :: F) := H14_
  have S18_ := Same.trans S6_ S15_
  refine S_list (T_val (v := (Value.int .i64 m)) (x_convI rfl Try.underlying64 Try.underlying2 (wrap_back m hm hm2)) ?_)
  refine S_list (T_val (v := (Value.int .i64 m)) (x_assign rfl) ?_)
  refine wpList_nil ?_
  refine (X_then (hK11_ _ _ ?_))
  clear hK11_
  refine C_seq (fun K19_ hK19_ => ?_)
  refine C_reg ?_
  refine S_list (T_val (v := (Value.slice (some ⟨b, off, none⟩) 17 cap)) (x_move rfl) ?_)
  refine S_list (T_val (v := (Value.slice (some ⟨b, off + 9, none⟩) 8 (cap - 9))) (x_slice (l := 9) (h := 17) rfl Try.underlying25 z5 rfl ⟨_, _, rfl, by omega, by omega, by omega⟩ ((by rw [if_neg (by omega)]; first | rfl | simp [add_mk]))) ?_)
  refine S_list (T_call (al := [(Value.slice (some ⟨b, off + 9, none⟩) 8 (cap - 9))]) (pre := []) (F := cl b2_ 82 [(Value.int .i64 0), (Value.int .i64 0), (Value.bool false)] :: F) rfl rfl cb67 (uint64 R b (off + 9) 8 (cap - 9) ((rvb (IntKind.u64.wrap m) (IntKind.u64.wrap s) ++ []).drop 9) (IntKind.u64.wrap s) (RCb_drop hc 9) (by simp [rvb, be8]) (by omega) (by exact fun y hy => rvb_rng _ _ _ (by decide) y (List.mem_of_mem_drop hy)) (rd_snd _ _ _ (wrap_u64_nn _) (wrap_u64_lt _))) H14_ ?_)
  rintro v23_ p24_ w20_ ⟨rfl, rfl⟩ S22_ H21_
  replace H21_ : Holds w20_ (ro R :: cl b2_ 82 [(Value.int .i64 0), (Value.int .i64 0), (Value.bool false)] :: F) := H21_
  have S25_ := Same.trans S18_ S22_
  refine S_list (T_val (v := (Value.int .i64 s)) (x_convI rfl Try.underlying64 Try.underlying2 (wrap_back s hs hs2)) ?_)
  refine S_list (T_val (v := (Value.int .i64 s)) (x_assign rfl) ?_)
  refine wpList_nil ?_
  refine (X_then (hK19_ _ _ ?_))
  clear hK19_
  refine C_seq (fun K26_ hK26_ => ?_)
  refine C_seq (fun K27_ hK27_ => ?_)
  refine C_reg ?_
  refine S_list (T_val (v := (Value.int .i64 m)) (x_move rfl) ?_)
  refine S_list (T_val (v := (Value.bool (decide (m < 0)))) (x_bin rfl rfl rfl) ?_)
  refine S_list (T_val (v := (Value.bool (decide (m < 0)))) (x_move rfl) ?_)
  rcases Bool.eq_false_or_eq_true (decide (m < 0)) with c28_t | c28_f
  · have c28_tp : m < 0 := of_decide_eq_true c28_t
    omega
  · have c28_fp : ¬ (m < 0) := of_decide_eq_false c28_f
    refine S_yes (j := 2) (dj := 29) (b := false) rfl rfl (congrArg Value.bool c28_f) (T_val (v := (Value.int .i64 s)) (x_move rfl) ?_)
    refine S_yes (j := 2) (dj := 29) (b := false) rfl rfl (congrArg Value.bool c28_f) (T_val (v := (Value.bool (decide (s < 0)))) (x_bin rfl rfl rfl) ?_)
    refine S_list (T_pickF (v := (Value.bool (decide (s < 0)))) (congrArg Value.bool c28_f) rfl ?_)
    refine wpList_nil ?_
    refine (X_then (hK27_ _ _ ?_))
    clear hK27_
    refine C_cond (b := decide (s < 0)) rfl (fun c29_t => ?_) (fun c29_f => ?_)
    · have c29_tp : s < 0 := of_decide_eq_true c29_t
      omega
    · have c29_fp : ¬ (s < 0) := of_decide_eq_false c29_f
      refine C_skip (X_then (hK26_ _ _ ?_))
      clear hK26_
      refine C_seq (fun K30_ hK30_ => ?_)
      refine C_reg ?_
      refine S_list (T_val (v := (Value.int .i64 m)) (x_move rfl) ?_)
      refine S_list (T_val (v := (Value.int .i64 s)) (x_move rfl) ?_)
      refine S_list (T_val (v := (Value.agg #[(Value.int .i64 m), (Value.int .i64 s)])) (by kernel_rfl) ?_)
      refine S_list (T_val (v := (Value.slice (some ⟨b, off, none⟩) 17 cap)) (x_move rfl) ?_)
      refine S_list (T_callW (al := [(Value.slice (some ⟨b, off, none⟩) 17 cap)]) rfl rfl cb68 (Calls.into (n := 12) (al := [(Value.slice (some ⟨b, off, none⟩) 17 cap)]) Try.func68 rfl Try.ntmps68 rfl rfl ?_))
      refine C_seq (fun K31_ hK31_ => ?_)
      refine C_reg ?_
      refine S_list (T_val (v := (Value.bool false)) (x_assign rfl) ?_)
      refine wpList_nil ?_
      refine (X_then (hK31_ _ _ ?_))
      clear hK31_
      refine C_seq (fun K32_ hK32_ => ?_)
      refine C_reg ?_
      refine S_list (T_val (v := (Value.slice (some ⟨b, off, none⟩) 17 cap)) (x_move rfl) ?_)
      refine S_list (T_val (v := (Value.int .i64 17)) (x_lenS rfl Try.underlying25) ?_)
      refine S_list (T_val (v := (Value.bool false)) (x_bin rfl rfl rfl) ?_)
      refine S_list (T_val (v := (Value.bool false)) (x_move rfl) ?_)
      refine S_no (j := 3) (dj := 6) (b := false) rfl rfl rfl (by decide) ?_
      refine S_no (j := 3) (dj := 6) (b := false) rfl rfl rfl (by decide) ?_
      refine S_no (j := 3) (dj := 6) (b := false) rfl rfl rfl (by decide) ?_
      refine S_no (j := 3) (dj := 6) (b := false) rfl rfl rfl (by decide) ?_
      refine S_list (T_pickF (v := (Value.bool false)) rfl rfl ?_)
      refine S_list (T_val (v := (Value.bool false)) (x_assign rfl) ?_)
      refine wpList_nil ?_
      refine (X_then (hK32_ _ _ ?_))
      clear hK32_
      refine C_ret ?_
      refine R_any (v := (Value.bool false)) (run_results1 rfl rfl) ⟨_, rfl, ?_⟩
      refine S_list (T_val (v := (Value.agg #[(Value.int .i64 m), (Value.int .i64 s), (Value.bool false)])) (by kernel_rfl) ?_)
      refine S_list0 (T_storeN (vs := [(Value.int .i64 m), (Value.int .i64 s), (Value.bool false)]) rfl rfl z82 rfl (by simp [Value.oneCell']) H21_ 1 rfl (Nat.le_of_ble_eq_true (by rfl)) ?_)
      intro w33_ S35_ H34_
      replace H34_ : Holds w33_ (ro R :: cl b2_ 82 [(Value.int .i64 m), (Value.int .i64 s), (Value.bool false)] :: F) := H34_
      have S36_ := Same.trans S25_ S35_
      refine wpList_nil ?_
      refine (X_then (hK30_ _ _ ?_))
      clear hK30_
      refine C_ret ?_
      refine R_any (v := (Value.agg #[(Value.int .i64 m), (Value.int .i64 s), (Value.bool false)])) (run_results1 rfl ⟨_, rfl, load_resN Try.underlying82 rfl z82 rfl (vs := [(Value.int .i64 m), (Value.int .i64 s), (Value.bool false)]) (Holds.cl_cells H34_ 1 rfl 0 rfl)⟩) ?_
      have H37_ : Holds w33_ (ro R :: F) := (Holds.erase (Holds.bring H34_ 0 rfl) 1)
      exact ⟨_, [], rfl, ⟨rfl, rfl⟩, S36_, H37_⟩

set_option maxHeartbeats 400000 in
theorem b2bk18t (R : HP) (v : Value) (m s : Int) (hm : 0 ≤ m) (hm2 : m < 9223372036854775808) (hs : 0 ≤ s) (hs2 : s < 9223372036854775808) (hv : RS R 1 v 18 (bytesV (rvb (IntKind.u64.wrap m) (IntKind.u64.wrap s) ++ [116]))) :
    Tri Try.prog 49 #[v] R [] (fun r post => r = .agg #[.int .i64 m, .int .i64 s, .bool true] ∧ post = []) := by
  obtain ⟨b, off, cap, rfl, hcap, hc⟩ := RS.at_ hv (by omega)
  refine Tri.into (n := 40) (al := [(Value.slice (some ⟨b, off, none⟩) 18 cap)]) Try.func49 rfl Try.ntmps49 rfl rfl fun w F H => ?_
  replace H : Holds w (ro R :: F) := H
  refine C_seq (fun K1_ hK1_ => ?_)
  refine C_reg ?_
  refine S_list (T_alloc z82 H ?_)
  intro b2_ w3_ S5_ H4_
  replace H4_ : Holds w3_ (cl b2_ 82 [(Value.int .i64 0), (Value.int .i64 0), (Value.bool false)] :: ro R :: F) := H4_
  have S6_ := Same.trans (Same.refl w) S5_
  refine wpList_nil ?_
  refine (X_then (hK1_ _ _ ?_))
  clear hK1_
  refine C_seq (fun K7_ hK7_ => ?_)
  refine C_seq (fun K8_ hK8_ => ?_)
  refine C_reg ?_
  refine S_list (T_val (v := (Value.slice (some ⟨b, off, none⟩) 18 cap)) (x_move rfl) ?_)
  refine S_list (T_val (v := (Value.int .i64 18)) (x_lenS rfl Try.underlying25) ?_)
  refine S_list (T_val (v := (Value.bool true)) (x_bin rfl rfl rfl) ?_)
  refine S_list (T_val (v := (Value.bool true)) (x_move rfl) ?_)
  refine S_yes (j := 3) (dj := 8) (b := true) rfl rfl rfl (T_val (v := (Value.slice (some ⟨b, off, none⟩) 18 cap)) (x_move rfl) ?_)
  refine S_yes (j := 3) (dj := 8) (b := true) rfl rfl rfl (T_val (v := (Value.int .i64 18)) (x_lenS rfl Try.underlying25) ?_)
  refine S_yes (j := 3) (dj := 8) (b := true) rfl rfl rfl (T_val (v := (Value.bool false)) (x_bin rfl rfl rfl) ?_)
  refine S_list (T_pickT (v := (Value.bool false)) rfl rfl ?_)
  refine wpList_nil ?_
  refine (X_then (hK8_ _ _ ?_))
  clear hK8_
  refine C_condF rfl ?_
  refine C_skip (X_then (hK7_ _ _ ?_))
  clear hK7_
  refine C_seq (fun K9_ hK9_ => ?_)
  refine C_seq (fun K10_ hK10_ => ?_)
  refine C_reg ?_
  refine S_list (T_val (v := (Value.slice (some ⟨b, off, none⟩) 18 cap)) (x_move rfl) ?_)
  refine S_list (T_val (v := (Value.pointer (some ⟨b, off + 8, none⟩))) (x_indexAddr rfl rfl Try.underlying25 z5 (by omega) (by omega) (by omega : _ = 8) (by first | rfl | simp | (congr 1; omega))) ?_)
  refine S_list (T_val (v := (Value.int .u8 95)) (x_load1 rfl Try.underlying5 rfl (RC.cell hc (Holds.ro_at H4_ 1 rfl) (by kernel_rfl))) ?_)
  refine S_list (T_val (v := (Value.bool false)) (x_bin rfl rfl rfl) ?_)
  refine wpList_nil ?_
  refine (X_then (hK10_ _ _ ?_))
  clear hK10_
  refine C_condF rfl ?_
  refine C_skip (X_then (hK9_ _ _ ?_))
  clear hK9_
  refine C_seq (fun K11_ hK11_ => ?_)
  refine C_reg ?_
  refine S_list (T_val (v := (Value.slice (some ⟨b, off, none⟩) 18 cap)) (x_move rfl) ?_)
  refine S_list (T_val (v := (Value.slice (some ⟨b, off, none⟩) 8 cap)) (x_slice (l := 0) (h := 8) rfl Try.underlying25 z5 ⟨_, _, rfl, by omega, by omega, by omega⟩ ⟨_, _, rfl, by omega, by omega, by omega⟩ (by simp [Addr.add])) ?_)
  have H12_ : Holds w3_ (ro R :: cl b2_ 82 [(Value.int .i64 0), (Value.int .i64 0), (Value.bool false)] :: F) := (Holds.bring H4_ 1 rfl)
  refine S_list (T_call (al := [(Value.slice (some ⟨b, off, none⟩) 8 cap)]) (pre := []) (F := cl b2_ 82 [(Value.int .i64 0), (Value.int .i64 0), (Value.bool false)] :: F) rfl rfl cb67 (uint64 R b off 8 cap (rvb (IntKind.u64.wrap m) (IntKind.u64.wrap s) ++ [116]) (IntKind.u64.wrap m) hc (by simp [rvb, be8]) (by omega) (by exact rvb_rng _ _ _ (by decide)) (rd_fst _ _ _ (wrap_u64_nn _) (wrap_u64_lt _))) H12_ ?_)
  rintro v16_ p17_ w13_ ⟨rfl, rfl⟩ S15_ H14_
  replace H14_ : Holds w13_ (ro R :: cl b2_ 82 [(Value.int .i64 0), (Value.int .i64 0), (Value.bool false)] :: F) := H14_
  have S18_ := Same.trans S6_ S15_
  refine S_list (T_val (v := (Value.int .i64 m)) (x_convI rfl Try.underlying64 Try.underlying2 (wrap_back m hm hm2)) ?_)
  refine S_list (T_val (v := (Value.int .i64 m)) (x_assign rfl) ?_)
  refine wpList_nil ?_
  refine (X_then (hK11_ _ _ ?_))
  clear hK11_
  refine C_seq (fun K19_ hK19_ => ?_)
  refine C_reg ?_
  refine S_list (T_val (v := (Value.slice (some ⟨b, off, none⟩) 18 cap)) (x_move rfl) ?_)
  refine S_list (T_val (v := (Value.slice (some ⟨b, off + 9, none⟩) 9 (cap - 9))) (x_slice (l := 9) (h := 18) rfl Try.underlying25 z5 rfl ⟨_, _, rfl, by omega, by omega, by omega⟩ ((by rw [if_neg (by omega)]; first | rfl | simp [add_mk]))) ?_)
  refine S_list (T_call (al := [(Value.slice (some ⟨b, off + 9, none⟩) 9 (cap - 9))]) (pre := []) (F := cl b2_ 82 [(Value.int .i64 0), (Value.int .i64 0), (Value.bool false)] :: F) rfl rfl cb67 (uint64 R b (off + 9) 9 (cap - 9) ((rvb (IntKind.u64.wrap m) (IntKind.u64.wrap s) ++ [116]).drop 9) (IntKind.u64.wrap s) (RCb_drop hc 9) (by simp [rvb, be8]) (by omega) (by exact fun y hy => rvb_rng _ _ _ (by decide) y (List.mem_of_mem_drop hy)) (rd_snd _ _ _ (wrap_u64_nn _) (wrap_u64_lt _))) H14_ ?_)
  rintro v23_ p24_ w20_ ⟨rfl, rfl⟩ S22_ H21_
  replace H21_ : Holds w20_ (ro R :: cl b2_ 82 [(Value.int .i64 0), (Value.int .i64 0), (Value.bool false)] :: F) := H21_
  have S25_ := Same.trans S18_ S22_
  refine S_list (T_val (v := (Value.int .i64 s)) (x_convI rfl Try.underlying64 Try.underlying2 (wrap_back s hs hs2)) ?_)
  refine S_list (T_val (v := (Value.int .i64 s)) (x_assign rfl) ?_)
  refine wpList_nil ?_
  refine (X_then (hK19_ _ _ ?_))
  clear hK19_
  refine C_seq (fun K26_ hK26_ => ?_)
  refine C_seq (fun K27_ hK27_ => ?_)
  refine C_reg ?_
  refine S_list (T_val (v := (Value.int .i64 m)) (x_move rfl) ?_)
  refine S_list (T_val (v := (Value.bool (decide (m < 0)))) (x_bin rfl rfl rfl) ?_)
  refine S_list (T_val (v := (Value.bool (decide (m < 0)))) (x_move rfl) ?_)
  rcases Bool.eq_false_or_eq_true (decide (m < 0)) with c28_t | c28_f
  · have c28_tp : m < 0 := of_decide_eq_true c28_t
    omega
  · have c28_fp : ¬ (m < 0) := of_decide_eq_false c28_f
    refine S_yes (j := 2) (dj := 29) (b := false) rfl rfl (congrArg Value.bool c28_f) (T_val (v := (Value.int .i64 s)) (x_move rfl) ?_)
    refine S_yes (j := 2) (dj := 29) (b := false) rfl rfl (congrArg Value.bool c28_f) (T_val (v := (Value.bool (decide (s < 0)))) (x_bin rfl rfl rfl) ?_)
    refine S_list (T_pickF (v := (Value.bool (decide (s < 0)))) (congrArg Value.bool c28_f) rfl ?_)
    refine wpList_nil ?_
    refine (X_then (hK27_ _ _ ?_))
    clear hK27_
    refine C_cond (b := decide (s < 0)) rfl (fun c29_t => ?_) (fun c29_f => ?_)
    · have c29_tp : s < 0 := of_decide_eq_true c29_t
      omega
    · have c29_fp : ¬ (s < 0) := of_decide_eq_false c29_f
      refine C_skip (X_then (hK26_ _ _ ?_))
      clear hK26_
      refine C_seq (fun K30_ hK30_ => ?_)
      refine C_reg ?_
      refine S_list (T_val (v := (Value.int .i64 m)) (x_move rfl) ?_)
      refine S_list (T_val (v := (Value.int .i64 s)) (x_move rfl) ?_)
      refine S_list (T_val (v := (Value.agg #[(Value.int .i64 m), (Value.int .i64 s)])) (by kernel_rfl) ?_)
      refine S_list (T_val (v := (Value.slice (some ⟨b, off, none⟩) 18 cap)) (x_move rfl) ?_)
      refine S_list (T_callW (al := [(Value.slice (some ⟨b, off, none⟩) 18 cap)]) rfl rfl cb68 (Calls.into (n := 12) (al := [(Value.slice (some ⟨b, off, none⟩) 18 cap)]) Try.func68 rfl Try.ntmps68 rfl rfl ?_))
      refine C_seq (fun K31_ hK31_ => ?_)
      refine C_reg ?_
      refine S_list (T_val (v := (Value.bool false)) (x_assign rfl) ?_)
      refine wpList_nil ?_
      refine (X_then (hK31_ _ _ ?_))
      clear hK31_
      refine C_seq (fun K32_ hK32_ => ?_)
      refine C_reg ?_
      refine S_list (T_val (v := (Value.slice (some ⟨b, off, none⟩) 18 cap)) (x_move rfl) ?_)
      refine S_list (T_val (v := (Value.int .i64 18)) (x_lenS rfl Try.underlying25) ?_)
      refine S_list (T_val (v := (Value.bool true)) (x_bin rfl rfl rfl) ?_)
      refine S_list (T_val (v := (Value.bool true)) (x_move rfl) ?_)
      refine S_yes (j := 3) (dj := 6) (b := true) rfl rfl rfl (T_val (v := (Value.slice (some ⟨b, off, none⟩) 18 cap)) (x_move rfl) ?_)
      refine S_yes (j := 3) (dj := 6) (b := true) rfl rfl rfl (T_val (v := (Value.pointer (some ⟨b, off + 17, none⟩))) (x_indexAddr rfl rfl Try.underlying25 z5 (by omega) (by omega) (by omega : _ = 17) (by first | rfl | simp | (congr 1; omega))) ?_)
      refine S_yes (j := 3) (dj := 6) (b := true) rfl rfl rfl (T_val (v := (Value.int .u8 116)) (x_load1 rfl Try.underlying5 rfl (RC.cell hc (Holds.ro_at H21_ 0 rfl) (by kernel_rfl))) ?_)
      refine S_yes (j := 3) (dj := 6) (b := true) rfl rfl rfl (T_val (v := (Value.bool true)) (x_bin rfl rfl rfl) ?_)
      refine S_list (T_pickT (v := (Value.bool true)) rfl rfl ?_)
      refine S_list (T_val (v := (Value.bool true)) (x_assign rfl) ?_)
      refine wpList_nil ?_
      refine (X_then (hK32_ _ _ ?_))
      clear hK32_
      refine C_ret ?_
      refine R_any (v := (Value.bool true)) (run_results1 rfl rfl) ⟨_, rfl, ?_⟩
      refine S_list (T_val (v := (Value.agg #[(Value.int .i64 m), (Value.int .i64 s), (Value.bool true)])) (by kernel_rfl) ?_)
      refine S_list0 (T_storeN (vs := [(Value.int .i64 m), (Value.int .i64 s), (Value.bool true)]) rfl rfl z82 rfl (by simp [Value.oneCell']) H21_ 1 rfl (Nat.le_of_ble_eq_true (by rfl)) ?_)
      intro w33_ S35_ H34_
      replace H34_ : Holds w33_ (ro R :: cl b2_ 82 [(Value.int .i64 m), (Value.int .i64 s), (Value.bool true)] :: F) := H34_
      have S36_ := Same.trans S25_ S35_
      refine wpList_nil ?_
      refine (X_then (hK30_ _ _ ?_))
      clear hK30_
      refine C_ret ?_
      refine R_any (v := (Value.agg #[(Value.int .i64 m), (Value.int .i64 s), (Value.bool true)])) (run_results1 rfl ⟨_, rfl, load_resN Try.underlying82 rfl z82 rfl (vs := [(Value.int .i64 m), (Value.int .i64 s), (Value.bool true)]) (Holds.cl_cells H34_ 1 rfl 0 rfl)⟩) ?_
      have H37_ : Holds w33_ (ro R :: F) := (Holds.erase (Holds.bring H34_ 0 rfl) 1)
      exact ⟨_, [], rfl, ⟨rfl, rfl⟩, S36_, H37_⟩

set_option maxHeartbeats 400000 in
theorem b2bk18f (R : HP) (v : Value) (m s : Int) (hm : 0 ≤ m) (hm2 : m < 9223372036854775808) (hs : 0 ≤ s) (hs2 : s < 9223372036854775808) (hv : RS R 1 v 18 (bytesV (rvb (IntKind.u64.wrap m) (IntKind.u64.wrap s) ++ [0]))) :
    Tri Try.prog 49 #[v] R [] (fun r post => r = .agg #[.int .i64 m, .int .i64 s, .bool false] ∧ post = []) := by
  obtain ⟨b, off, cap, rfl, hcap, hc⟩ := RS.at_ hv (by omega)
  refine Tri.into (n := 40) (al := [(Value.slice (some ⟨b, off, none⟩) 18 cap)]) Try.func49 rfl Try.ntmps49 rfl rfl fun w F H => ?_
  replace H : Holds w (ro R :: F) := H
  refine C_seq (fun K1_ hK1_ => ?_)
  refine C_reg ?_
  refine S_list (T_alloc z82 H ?_)
  intro b2_ w3_ S5_ H4_
  replace H4_ : Holds w3_ (cl b2_ 82 [(Value.int .i64 0), (Value.int .i64 0), (Value.bool false)] :: ro R :: F) := H4_
  have S6_ := Same.trans (Same.refl w) S5_
  refine wpList_nil ?_
  refine (X_then (hK1_ _ _ ?_))
  clear hK1_
  refine C_seq (fun K7_ hK7_ => ?_)
  refine C_seq (fun K8_ hK8_ => ?_)
  refine C_reg ?_
  refine S_list (T_val (v := (Value.slice (some ⟨b, off, none⟩) 18 cap)) (x_move rfl) ?_)
  refine S_list (T_val (v := (Value.int .i64 18)) (x_lenS rfl Try.underlying25) ?_)
  refine S_list (T_val (v := (Value.bool true)) (x_bin rfl rfl rfl) ?_)
  refine S_list (T_val (v := (Value.bool true)) (x_move rfl) ?_)
  refine S_yes (j := 3) (dj := 8) (b := true) rfl rfl rfl (T_val (v := (Value.slice (some ⟨b, off, none⟩) 18 cap)) (x_move rfl) ?_)
  refine S_yes (j := 3) (dj := 8) (b := true) rfl rfl rfl (T_val (v := (Value.int .i64 18)) (x_lenS rfl Try.underlying25) ?_)
  refine S_yes (j := 3) (dj := 8) (b := true) rfl rfl rfl (T_val (v := (Value.bool false)) (x_bin rfl rfl rfl) ?_)
  refine S_list (T_pickT (v := (Value.bool false)) rfl rfl ?_)
  refine wpList_nil ?_
  refine (X_then (hK8_ _ _ ?_))
  clear hK8_
  refine C_condF rfl ?_
  refine C_skip (X_then (hK7_ _ _ ?_))
  clear hK7_
  refine C_seq (fun K9_ hK9_ => ?_)
  refine C_seq (fun K10_ hK10_ => ?_)
  refine C_reg ?_
  refine S_list (T_val (v := (Value.slice (some ⟨b, off, none⟩) 18 cap)) (x_move rfl) ?_)
  refine S_list (T_val (v := (Value.pointer (some ⟨b, off + 8, none⟩))) (x_indexAddr rfl rfl Try.underlying25 z5 (by omega) (by omega) (by omega : _ = 8) (by first | rfl | simp | (congr 1; omega))) ?_)
  refine S_list (T_val (v := (Value.int .u8 95)) (x_load1 rfl Try.underlying5 rfl (RC.cell hc (Holds.ro_at H4_ 1 rfl) (by kernel_rfl))) ?_)
  refine S_list (T_val (v := (Value.bool false)) (x_bin rfl rfl rfl) ?_)
  refine wpList_nil ?_
  refine (X_then (hK10_ _ _ ?_))
  clear hK10_
  refine C_condF rfl ?_
  refine C_skip (X_then (hK9_ _ _ ?_))
  clear hK9_
  refine C_seq (fun K11_ hK11_ => ?_)
  refine C_reg ?_
  refine S_list (T_val (v := (Value.slice (some ⟨b, off, none⟩) 18 cap)) (x_move rfl) ?_)
  refine S_list (T_val (v := (Value.slice (some ⟨b, off, none⟩) 8 cap)) (x_slice (l := 0) (h := 8) rfl Try.underlying25 z5 ⟨_, _, rfl, by omega, by omega, by omega⟩ ⟨_, _, rfl, by omega, by omega, by omega⟩ (by simp [Addr.add])) ?_)
  have H12_ : Holds w3_ (ro R :: cl b2_ 82 [(Value.int .i64 0), (Value.int .i64 0), (Value.bool false)] :: F) := (Holds.bring H4_ 1 rfl)
  refine S_list (T_call (al := [(Value.slice (some ⟨b, off, none⟩) 8 cap)]) (pre := []) (F := cl b2_ 82 [(Value.int .i64 0), (Value.int .i64 0), (Value.bool false)] :: F) rfl rfl cb67 (uint64 R b off 8 cap (rvb (IntKind.u64.wrap m) (IntKind.u64.wrap s) ++ [0]) (IntKind.u64.wrap m) hc (by simp [rvb, be8]) (by omega) (by exact rvb_rng _ _ _ (by decide)) (rd_fst _ _ _ (wrap_u64_nn _) (wrap_u64_lt _))) H12_ ?_)
  rintro v16_ p17_ w13_ ⟨rfl, rfl⟩ S15_ H14_
  replace H14_ : Holds w13_ (ro R :: cl b2_ 82 [(Value.int .i64 0), (Value.int .i64 0), (Value.bool false)] :: F) := H14_
  have S18_ := Same.trans S6_ S15_
  refine S_list (T_val (v := (Value.int .i64 m)) (x_convI rfl Try.underlying64 Try.underlying2 (wrap_back m hm hm2)) ?_)
  refine S_list (T_val (v := (Value.int .i64 m)) (x_assign rfl) ?_)
  refine wpList_nil ?_
  refine (X_then (hK11_ _ _ ?_))
  clear hK11_
  refine C_seq (fun K19_ hK19_ => ?_)
  refine C_reg ?_
  refine S_list (T_val (v := (Value.slice (some ⟨b, off, none⟩) 18 cap)) (x_move rfl) ?_)
  refine S_list (T_val (v := (Value.slice (some ⟨b, off + 9, none⟩) 9 (cap - 9))) (x_slice (l := 9) (h := 18) rfl Try.underlying25 z5 rfl ⟨_, _, rfl, by omega, by omega, by omega⟩ ((by rw [if_neg (by omega)]; first | rfl | simp [add_mk]))) ?_)
  refine S_list (T_call (al := [(Value.slice (some ⟨b, off + 9, none⟩) 9 (cap - 9))]) (pre := []) (F := cl b2_ 82 [(Value.int .i64 0), (Value.int .i64 0), (Value.bool false)] :: F) rfl rfl cb67 (uint64 R b (off + 9) 9 (cap - 9) ((rvb (IntKind.u64.wrap m) (IntKind.u64.wrap s) ++ [0]).drop 9) (IntKind.u64.wrap s) (RCb_drop hc 9) (by simp [rvb, be8]) (by omega) (by exact fun y hy => rvb_rng _ _ _ (by decide) y (List.mem_of_mem_drop hy)) (rd_snd _ _ _ (wrap_u64_nn _) (wrap_u64_lt _))) H14_ ?_)
  rintro v23_ p24_ w20_ ⟨rfl, rfl⟩ S22_ H21_
  replace H21_ : Holds w20_ (ro R :: cl b2_ 82 [(Value.int .i64 0), (Value.int .i64 0), (Value.bool false)] :: F) := H21_
  have S25_ := Same.trans S18_ S22_
  refine S_list (T_val (v := (Value.int .i64 s)) (x_convI rfl Try.underlying64 Try.underlying2 (wrap_back s hs hs2)) ?_)
  refine S_list (T_val (v := (Value.int .i64 s)) (x_assign rfl) ?_)
  refine wpList_nil ?_
  refine (X_then (hK19_ _ _ ?_))
  clear hK19_
  refine C_seq (fun K26_ hK26_ => ?_)
  refine C_seq (fun K27_ hK27_ => ?_)
  refine C_reg ?_
  refine S_list (T_val (v := (Value.int .i64 m)) (x_move rfl) ?_)
  refine S_list (T_val (v := (Value.bool (decide (m < 0)))) (x_bin rfl rfl rfl) ?_)
  refine S_list (T_val (v := (Value.bool (decide (m < 0)))) (x_move rfl) ?_)
  rcases Bool.eq_false_or_eq_true (decide (m < 0)) with c28_t | c28_f
  · have c28_tp : m < 0 := of_decide_eq_true c28_t
    omega
  · have c28_fp : ¬ (m < 0) := of_decide_eq_false c28_f
    refine S_yes (j := 2) (dj := 29) (b := false) rfl rfl (congrArg Value.bool c28_f) (T_val (v := (Value.int .i64 s)) (x_move rfl) ?_)
    refine S_yes (j := 2) (dj := 29) (b := false) rfl rfl (congrArg Value.bool c28_f) (T_val (v := (Value.bool (decide (s < 0)))) (x_bin rfl rfl rfl) ?_)
    refine S_list (T_pickF (v := (Value.bool (decide (s < 0)))) (congrArg Value.bool c28_f) rfl ?_)
    refine wpList_nil ?_
    refine (X_then (hK27_ _ _ ?_))
    clear hK27_
    refine C_cond (b := decide (s < 0)) rfl (fun c29_t => ?_) (fun c29_f => ?_)
    · have c29_tp : s < 0 := of_decide_eq_true c29_t
      omega
    · have c29_fp : ¬ (s < 0) := of_decide_eq_false c29_f
      refine C_skip (X_then (hK26_ _ _ ?_))
      clear hK26_
      refine C_seq (fun K30_ hK30_ => ?_)
      refine C_reg ?_
      refine S_list (T_val (v := (Value.int .i64 m)) (x_move rfl) ?_)
      refine S_list (T_val (v := (Value.int .i64 s)) (x_move rfl) ?_)
      refine S_list (T_val (v := (Value.agg #[(Value.int .i64 m), (Value.int .i64 s)])) (by kernel_rfl) ?_)
      refine S_list (T_val (v := (Value.slice (some ⟨b, off, none⟩) 18 cap)) (x_move rfl) ?_)
      refine S_list (T_callW (al := [(Value.slice (some ⟨b, off, none⟩) 18 cap)]) rfl rfl cb68 (Calls.into (n := 12) (al := [(Value.slice (some ⟨b, off, none⟩) 18 cap)]) Try.func68 rfl Try.ntmps68 rfl rfl ?_))
      refine C_seq (fun K31_ hK31_ => ?_)
      refine C_reg ?_
      refine S_list (T_val (v := (Value.bool false)) (x_assign rfl) ?_)
      refine wpList_nil ?_
      refine (X_then (hK31_ _ _ ?_))
      clear hK31_
      refine C_seq (fun K32_ hK32_ => ?_)
      refine C_reg ?_
      refine S_list (T_val (v := (Value.slice (some ⟨b, off, none⟩) 18 cap)) (x_move rfl) ?_)
      refine S_list (T_val (v := (Value.int .i64 18)) (x_lenS rfl Try.underlying25) ?_)
      refine S_list (T_val (v := (Value.bool true)) (x_bin rfl rfl rfl) ?_)
      refine S_list (T_val (v := (Value.bool true)) (x_move rfl) ?_)
      refine S_yes (j := 3) (dj := 6) (b := true) rfl rfl rfl (T_val (v := (Value.slice (some ⟨b, off, none⟩) 18 cap)) (x_move rfl) ?_)
      refine S_yes (j := 3) (dj := 6) (b := true) rfl rfl rfl (T_val (v := (Value.pointer (some ⟨b, off + 17, none⟩))) (x_indexAddr rfl rfl Try.underlying25 z5 (by omega) (by omega) (by omega : _ = 17) (by first | rfl | simp | (congr 1; omega))) ?_)
      refine S_yes (j := 3) (dj := 6) (b := true) rfl rfl rfl (T_val (v := (Value.int .u8 0)) (x_load1 rfl Try.underlying5 rfl (RC.cell hc (Holds.ro_at H21_ 0 rfl) (by kernel_rfl))) ?_)
      refine S_yes (j := 3) (dj := 6) (b := true) rfl rfl rfl (T_val (v := (Value.bool false)) (x_bin rfl rfl rfl) ?_)
      refine S_list (T_pickT (v := (Value.bool false)) rfl rfl ?_)
      refine S_list (T_val (v := (Value.bool false)) (x_assign rfl) ?_)
      refine wpList_nil ?_
      refine (X_then (hK32_ _ _ ?_))
      clear hK32_
      refine C_ret ?_
      refine R_any (v := (Value.bool false)) (run_results1 rfl rfl) ⟨_, rfl, ?_⟩
      refine S_list (T_val (v := (Value.agg #[(Value.int .i64 m), (Value.int .i64 s), (Value.bool false)])) (by kernel_rfl) ?_)
      refine S_list0 (T_storeN (vs := [(Value.int .i64 m), (Value.int .i64 s), (Value.bool false)]) rfl rfl z82 rfl (by simp [Value.oneCell']) H21_ 1 rfl (Nat.le_of_ble_eq_true (by rfl)) ?_)
      intro w33_ S35_ H34_
      replace H34_ : Holds w33_ (ro R :: cl b2_ 82 [(Value.int .i64 m), (Value.int .i64 s), (Value.bool false)] :: F) := H34_
      have S36_ := Same.trans S25_ S35_
      refine wpList_nil ?_
      refine (X_then (hK30_ _ _ ?_))
      clear hK30_
      refine C_ret ?_
      refine R_any (v := (Value.agg #[(Value.int .i64 m), (Value.int .i64 s), (Value.bool false)])) (run_results1 rfl ⟨_, rfl, load_resN Try.underlying82 rfl z82 rfl (vs := [(Value.int .i64 m), (Value.int .i64 s), (Value.bool false)]) (Holds.cl_cells H34_ 1 rfl 0 rfl)⟩) ?_
      have H37_ : Holds w33_ (ro R :: F) := (Holds.erase (Holds.bring H34_ 0 rfl) 1)
      exact ⟨_, [], rfl, ⟨rfl, rfl⟩, S36_, H37_⟩
end Go.Proofs.Ytfdnfnjmphjdnaa
