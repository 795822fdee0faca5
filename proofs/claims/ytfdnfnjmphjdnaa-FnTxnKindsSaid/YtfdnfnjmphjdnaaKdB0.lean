/- What the functions over transactions come to: requests of the protocol. -/
import Derived.Test.YtfdnfnjmphjdnaaKdA0
set_option linter.unusedVariables false
set_option linter.unusedSimpArgs false
namespace Go.Proofs.Ytfdnfnjmphjdnaa
open Go Go.RowKit Gw

set_option maxHeartbeats 400000 in
theorem kOrder (R : HP) (x : Int) :
    Tri Try.prog 61 #[(Value.int .i64 x)] R [] (fun v post => (∃ r : Int, v = .int .i32 r) ∧ post = []) := by
  refine Tri.into (n := 11) (al := [(Value.int .i64 x)]) Try.func61 rfl Try.ntmps61 rfl rfl fun w F H => ?_
  replace H : Holds w (ro R :: F) := H
  refine C_seq (fun K1_ hK1_ => ?_)
  refine C_reg ?_
  refine S_list (T_val (v := (Value.int .i32 0)) (x_assign rfl) ?_)
  refine wpList_nil ?_
  refine (X_then (hK1_ _ _ ?_))
  clear hK1_
  refine C_seq (fun K2_ hK2_ => ?_)
  refine C_seq (fun K3_ hK3_ => ?_)
  refine C_reg ?_
  refine S_list (T_val (v := (Value.int .i64 x)) (x_move rfl) ?_)
  refine S_list (T_val (v := (Value.bool (decide (x < -2147483648)))) (x_bin rfl rfl rfl) ?_)
  refine S_list (T_val (v := (Value.bool (decide (x < -2147483648)))) (x_move rfl) ?_)
  rcases Bool.eq_false_or_eq_true (decide (x < -2147483648)) with c4_t | c4_f
  · have c4_tp : x < -2147483648 := of_decide_eq_true c4_t
    refine S_no (j := 2) (dj := 5) (b := true) rfl rfl (congrArg Value.bool c4_t) (by decide) ?_
    refine S_no (j := 2) (dj := 5) (b := true) rfl rfl (congrArg Value.bool c4_t) (by decide) ?_
    refine S_list (T_pickT (v := (Value.bool true)) (congrArg Value.bool c4_t) rfl ?_)
    refine wpList_nil ?_
    refine (X_then (hK3_ _ _ ?_))
    clear hK3_
    refine C_condT rfl ?_
    refine C_seq (fun K5_ hK5_ => ?_)
    refine C_reg ?_
    refine S_list (T_val (v := (Value.int .i32 (-1))) (x_assign rfl) ?_)
    refine wpList_nil ?_
    refine (X_then (hK5_ _ _ ?_))
    clear hK5_
    refine C_ret (X_thenR ?_)
    refine R_any (v := (Value.int .i32 (-1))) (run_results1 rfl rfl) ?_
    exact ⟨_, [], rfl, ⟨⟨_, rfl⟩, rfl⟩, (Same.refl w), H⟩
  · have c4_fp : ¬ (x < -2147483648) := of_decide_eq_false c4_f
    refine S_yes (j := 2) (dj := 5) (b := false) rfl rfl (congrArg Value.bool c4_f) (T_val (v := (Value.int .i64 x)) (x_move rfl) ?_)
    refine S_yes (j := 2) (dj := 5) (b := false) rfl rfl (congrArg Value.bool c4_f) (T_val (v := (Value.bool (decide (2147483647 < x)))) (x_bin rfl rfl rfl) ?_)
    refine S_list (T_pickF (v := (Value.bool (decide (2147483647 < x)))) (congrArg Value.bool c4_f) rfl ?_)
    refine wpList_nil ?_
    refine (X_then (hK3_ _ _ ?_))
    clear hK3_
    refine C_cond (b := decide (2147483647 < x)) rfl (fun c6_t => ?_) (fun c6_f => ?_)
    · have c6_tp : 2147483647 < x := of_decide_eq_true c6_t
      refine C_seq (fun K7_ hK7_ => ?_)
      refine C_reg ?_
      refine S_list (T_val (v := (Value.int .i32 (-1))) (x_assign rfl) ?_)
      refine wpList_nil ?_
      refine (X_then (hK7_ _ _ ?_))
      clear hK7_
      refine C_ret (X_thenR ?_)
      refine R_any (v := (Value.int .i32 (-1))) (run_results1 rfl rfl) ?_
      exact ⟨_, [], rfl, ⟨⟨_, rfl⟩, rfl⟩, (Same.refl w), H⟩
    · have c6_fp : ¬ (2147483647 < x) := of_decide_eq_false c6_f
      refine C_skip (X_then (hK2_ _ _ ?_))
      clear hK2_
      refine C_seq (fun K8_ hK8_ => ?_)
      refine C_reg ?_
      refine S_list (T_val (v := (Value.int .i64 x)) (x_move rfl) ?_)
      refine S_list (T_val (v := (Value.int .i32 (IntKind.i32.wrap x))) (x_convI rfl Try.underlying3 Try.underlying21 rfl) ?_)
      refine S_list (T_val (v := (Value.int .i32 (IntKind.i32.wrap x))) (x_assign rfl) ?_)
      refine wpList_nil ?_
      refine (X_then (hK8_ _ _ ?_))
      clear hK8_
      refine C_ret ?_
      refine R_any (v := (Value.int .i32 (IntKind.i32.wrap x))) (run_results1 rfl rfl) ?_
      exact ⟨_, [], rfl, ⟨⟨_, rfl⟩, rfl⟩, (Same.refl w), H⟩

set_option maxHeartbeats 400000 in
theorem kBytesOf (R : HP) (x : ByteArray) :
    Tri Try.prog 62 #[(Value.string x)] R [] (fun v post => (∃ a m c, v = .slice a m c) ∧ post = []) := by
  refine Tri.into (n := 7) (al := [(Value.string x)]) Try.func62 rfl Try.ntmps62 rfl rfl fun w F H => ?_
  replace H : Holds w (ro R :: F) := H
  refine C_seq (fun K1_ hK1_ => ?_)
  refine C_reg ?_
  refine S_list (T_val (v := (Value.slice none 0 0)) (x_assign rfl) ?_)
  refine wpList_nil ?_
  refine (X_then (hK1_ _ _ ?_))
  clear hK1_
  refine C_seq (fun K2_ hK2_ => ?_)
  refine C_seq (fun K3_ hK3_ => ?_)
  refine C_reg ?_
  refine S_list (T_val (v := (Value.string x)) (x_move rfl) ?_)
  refine S_list (T_val (v := (Value.bool (x.toList == (ByteArray.mk #[]).toList))) (x_str rfl rfl rfl (by decide)) ?_)
  refine wpList_nil ?_
  refine (X_then (hK3_ _ _ ?_))
  clear hK3_
  refine C_cond (b := x.toList == (ByteArray.mk #[]).toList) rfl (fun c4_t => ?_) (fun c4_f => ?_)
  · skip
    refine C_seq (fun K5_ hK5_ => ?_)
    refine C_reg ?_
    refine S_list (T_val (v := (Value.slice none 0 0)) (x_assign rfl) ?_)
    refine wpList_nil ?_
    refine (X_then (hK5_ _ _ ?_))
    clear hK5_
    refine C_ret (X_thenR ?_)
    refine R_any (v := (Value.slice none 0 0)) (run_results1 rfl rfl) ?_
    exact ⟨_, [], rfl, ⟨⟨_, _, _, rfl⟩, rfl⟩, (Same.refl w), H⟩
  · skip
    refine C_skip (X_then (hK2_ _ _ ?_))
    clear hK2_
    refine C_seq (fun K6_ hK6_ => ?_)
    refine C_reg ?_
    refine S_list (T_val (v := (Value.string x)) (x_move rfl) ?_)
    refine S_list (T_s2b rfl Try.underlying9 Try.underlying25 Try.underlying5 H ?_)
    intro b7_ cp8_ w9_ S11_ hc12_ H10_
    have S13_ := Same.trans (Same.refl w) S11_
    have H14_ : Holds w9_ (sl 5 1 (Value.slice (some ⟨b7_, 0, none⟩) x.size cp8_) x.size (bytesV (ints x)) :: ro R :: F) := cast2 (P := fun (c__ : List Value) (k__ : Nat) => Holds w9_ (sl 5 1 (Value.slice (some ⟨b7_, 0, none⟩) x.size cp8_) k__ c__ :: ro R :: F)) (byteCells_bytesV _ : byteCells x = bytesV (ints x)) (rfl : x.size = x.size) H10_
    refine S_list (T_val (v := (Value.slice (some ⟨b7_, 0, none⟩) x.size cp8_)) (x_assign rfl) ?_)
    refine wpList_nil ?_
    refine (X_then (hK6_ _ _ ?_))
    clear hK6_
    refine C_ret ?_
    refine R_any (v := (Value.slice (some ⟨b7_, 0, none⟩) x.size cp8_)) (run_results1 rfl rfl) ?_
    have H15_ : Holds w9_ (ro R :: F) := (Holds.erase (Holds.bring H14_ 1 rfl) 1)
    exact ⟨_, [], rfl, ⟨⟨_, _, _, rfl⟩, rfl⟩, S13_, H15_⟩

set_option maxHeartbeats 400000 in
theorem kCmpIn (R : HP) (c : CmpS) :
    Tri Try.prog 36 #[(Value.agg #[(Value.int .i64 c.T), (Value.int .i64 c.r), (Value.string c.key), (Value.string c.en), (Value.int .i64 c.n), (Value.string c.val), (Value.bool c.bare)])] R [] (fun v post => (∃ b : Nat, v = .pointer (some ⟨b, 0, none⟩)) ∧ post = []) := by
  refine Tri.into (n := 75) (al := [(Value.agg #[(Value.int .i64 c.T), (Value.int .i64 c.r), (Value.string c.key), (Value.string c.en), (Value.int .i64 c.n), (Value.string c.val), (Value.bool c.bare)])]) Try.func36 rfl Try.ntmps36 rfl rfl fun w F H => ?_
  replace H : Holds w (ro R :: F) := H
  refine C_seq (fun K1_ hK1_ => ?_)
  refine C_reg ?_
  refine S_list (T_box (v := (Value.agg #[(Value.int .i64 c.T), (Value.int .i64 c.r), (Value.string c.key), (Value.string c.en), (Value.int .i64 c.n), (Value.string c.val), (Value.bool c.bare)])) rfl H ?_)
  intro b2_ w3_ S5_ H4_
  replace H4_ : Holds w3_ (cl b2_ 31 [(Value.int .i64 c.T), (Value.int .i64 c.r), (Value.string c.key), (Value.string c.en), (Value.int .i64 c.n), (Value.string c.val), (Value.bool c.bare)] :: ro R :: F) := H4_
  have S6_ := Same.trans (Same.refl w) S5_
  refine S_list (T_val (v := (Value.pointer none)) (x_assign rfl) ?_)
  refine wpList_nil ?_
  refine (X_then (hK1_ _ _ ?_))
  clear hK1_
  refine C_seq (fun K7_ hK7_ => ?_)
  refine A_start (S := fun w => Rd b2_ [(Value.int .i64 c.T), (Value.int .i64 c.r), (Value.string c.key), (Value.string c.en), (Value.int .i64 c.n), (Value.string c.val), (Value.bool c.bare)] w ∧ Sub R (hp w)) (N := 15) foll rfl rfl ?_
  have H9_ : Holds w3_.drew (cl b2_ 31 [(Value.int .i64 c.T), (Value.int .i64 c.r), (Value.string c.key), (Value.string c.en), (Value.int .i64 c.n), (Value.string c.val), (Value.bool c.bare)] :: ro R :: F) := H4_
  refine A_take 0 (ls' := #[true, false, false, false, false, false, false, false, false, false, false, false, false, false, false]) (v := (Value.pointer (some ⟨b2_, 1, none⟩))) rfl (by kernel_rfl) (by kernel_rfl) (by kernel_rfl) (by kernel_rfl) (fun _ _ _ h => h) (fun w hS => by kernel_rfl) ⟨Holds.rd H9_ 0 rfl, Holds.ro_at H9_ 1 rfl⟩ ?_
  refine A_take 1 (ls' := #[true, true, false, false, false, false, false, false, false, false, false, false, false, false, false]) (v := (Value.int .i64 c.r)) rfl (by kernel_rfl) (by kernel_rfl) (by kernel_rfl) (by kernel_rfl) (fun _ _ _ h => h) (fun w hS => x_load1 rfl Try.underlying3 rfl (hS.1 1 (Value.int .i64 c.r) rfl)) ⟨Holds.rd H9_ 0 rfl, Holds.ro_at H9_ 1 rfl⟩ ?_
  refine A_take 3 (ls' := #[true, true, false, true, false, false, false, false, false, false, false, false, false, false, false]) (v := (Value.pointer (some ⟨b2_, 0, none⟩))) rfl (by kernel_rfl) (by kernel_rfl) (by kernel_rfl) (by kernel_rfl) (fun _ _ _ h => h) (fun w hS => by kernel_rfl) ⟨Holds.rd H9_ 0 rfl, Holds.ro_at H9_ 1 rfl⟩ ?_
  refine A_take 4 (ls' := #[true, true, false, true, true, false, false, false, false, false, false, false, false, false, false]) (v := (Value.int .i64 c.T)) rfl (by kernel_rfl) (by kernel_rfl) (by kernel_rfl) (by kernel_rfl) (fun _ _ _ h => h) (fun w hS => x_load1 rfl Try.underlying3 rfl (hS.1 0 (Value.int .i64 c.T) rfl)) ⟨Holds.rd H9_ 0 rfl, Holds.ro_at H9_ 1 rfl⟩ ?_
  refine A_take 6 (ls' := #[true, true, false, true, true, false, true, false, false, false, false, false, false, false, false]) (v := (Value.pointer (some ⟨b2_, 2, none⟩))) rfl (by kernel_rfl) (by kernel_rfl) (by kernel_rfl) (by kernel_rfl) (fun _ _ _ h => h) (fun w hS => by kernel_rfl) ⟨Holds.rd H9_ 0 rfl, Holds.ro_at H9_ 1 rfl⟩ ?_
  refine A_take 7 (ls' := #[true, true, false, true, true, false, true, true, false, false, false, false, false, false, false]) (v := (Value.string c.key)) rfl (by kernel_rfl) (by kernel_rfl) (by kernel_rfl) (by kernel_rfl) (fun _ _ _ h => h) (fun w hS => x_load1 rfl Try.underlying9 rfl (hS.1 2 (Value.string c.key) rfl)) ⟨Holds.rd H9_ 0 rfl, Holds.ro_at H9_ 1 rfl⟩ ?_
  refine A_take 9 (ls' := #[true, true, false, true, true, false, true, true, false, true, false, false, false, false, false]) (v := (Value.pointer (some ⟨b2_, 3, none⟩))) rfl (by kernel_rfl) (by kernel_rfl) (by kernel_rfl) (by kernel_rfl) (fun _ _ _ h => h) (fun w hS => by kernel_rfl) ⟨Holds.rd H9_ 0 rfl, Holds.ro_at H9_ 1 rfl⟩ ?_
  refine A_take 10 (ls' := #[true, true, false, true, true, false, true, true, false, true, true, false, false, false, false]) (v := (Value.string c.en)) rfl (by kernel_rfl) (by kernel_rfl) (by kernel_rfl) (by kernel_rfl) (fun _ _ _ h => h) (fun w hS => x_load1 rfl Try.underlying9 rfl (hS.1 3 (Value.string c.en) rfl)) ⟨Holds.rd H9_ 0 rfl, Holds.ro_at H9_ 1 rfl⟩ ?_
  refine A_ready (i := 2) (rs := [8]) (by kernel_rfl) ?_
  refine AllR.cons ?_ ?_
  · skip
    have H11_ : Holds w3_.drew (ro R :: cl b2_ 31 [(Value.int .i64 c.T), (Value.int .i64 c.r), (Value.string c.key), (Value.string c.en), (Value.int .i64 c.n), (Value.string c.val), (Value.bool c.bare)] :: F) := (Holds.bring H9_ 1 rfl)
    refine A_op (ls' := #[true, true, true, true, true, false, true, true, false, true, true, false, false, false, false]) rfl (by kernel_rfl) (T_call (al := [(Value.int .i64 c.r)]) (pre := []) (F := cl b2_ 31 [(Value.int .i64 c.T), (Value.int .i64 c.r), (Value.string c.key), (Value.string c.en), (Value.int .i64 c.n), (Value.string c.val), (Value.bool c.bare)] :: F) rfl rfl cb61 (kOrder R c.r) H11_ ?_)
    rintro v15_ p16_ w12_ ⟨⟨r10_, rfl⟩, rfl⟩ S14_ H13_
    replace H13_ : Holds w12_ (ro R :: cl b2_ 31 [(Value.int .i64 c.T), (Value.int .i64 c.r), (Value.string c.key), (Value.string c.en), (Value.int .i64 c.n), (Value.string c.val), (Value.bool c.bare)] :: F) := H13_
    have S17_ := Same.trans (Same.trans S6_ (Same.drew _)) S14_
    refine ⟨⟨Holds.rd H13_ 1 rfl, Holds.ro_at H13_ 0 rfl⟩, ?_⟩
    refine A_ready (i := 5) (rs := [8]) (by kernel_rfl) ?_
    refine AllR.cons ?_ ?_
    · skip
      refine A_op (ls' := #[true, true, true, true, true, true, true, true, false, true, true, false, false, false, false]) rfl (by kernel_rfl) (T_call (al := [(Value.int .i64 c.T)]) (pre := []) (F := cl b2_ 31 [(Value.int .i64 c.T), (Value.int .i64 c.r), (Value.string c.key), (Value.string c.en), (Value.int .i64 c.n), (Value.string c.val), (Value.bool c.bare)] :: F) rfl rfl cb61 (kOrder R c.T) H13_ ?_)
      rintro v22_ p23_ w19_ ⟨⟨r18_, rfl⟩, rfl⟩ S21_ H20_
      replace H20_ : Holds w19_ (ro R :: cl b2_ 31 [(Value.int .i64 c.T), (Value.int .i64 c.r), (Value.string c.key), (Value.string c.en), (Value.int .i64 c.n), (Value.string c.val), (Value.bool c.bare)] :: F) := H20_
      have S24_ := Same.trans S17_ S21_
      refine ⟨⟨Holds.rd H20_ 1 rfl, Holds.ro_at H20_ 0 rfl⟩, ?_⟩
      refine A_ready (i := 8) (rs := [11]) (by kernel_rfl) ?_
      refine AllR.cons ?_ ?_
      · skip
        refine A_op (ls' := #[true, true, true, true, true, true, true, true, true, true, true, false, false, false, false]) rfl (by kernel_rfl) (T_s2b rfl Try.underlying9 Try.underlying25 Try.underlying5 H20_ ?_)
        intro b25_ cp26_ w27_ S29_ hc30_ H28_
        have S31_ := Same.trans S24_ S29_
        have H32_ : Holds w27_ (sl 5 1 (Value.slice (some ⟨b25_, 0, none⟩) c.key.size cp26_) c.key.size (bytesV (ints c.key)) :: ro R :: cl b2_ 31 [(Value.int .i64 c.T), (Value.int .i64 c.r), (Value.string c.key), (Value.string c.en), (Value.int .i64 c.n), (Value.string c.val), (Value.bool c.bare)] :: F) := cast2 (P := fun (c__ : List Value) (k__ : Nat) => Holds w27_ (sl 5 1 (Value.slice (some ⟨b25_, 0, none⟩) c.key.size cp26_) k__ c__ :: ro R :: cl b2_ 31 [(Value.int .i64 c.T), (Value.int .i64 c.r), (Value.string c.key), (Value.string c.en), (Value.int .i64 c.n), (Value.string c.val), (Value.bool c.bare)] :: F)) (byteCells_bytesV _ : byteCells c.key = bytesV (ints c.key)) (rfl : c.key.size = c.key.size) H28_
        refine ⟨⟨Holds.rd H32_ 2 rfl, Holds.ro_at H32_ 1 rfl⟩, ?_⟩
        refine A_ready (i := 11) (rs := []) (by kernel_rfl) ?_
        refine AllR.cons ?_ AllR.nil
        have H36_ : Holds w27_ (ro R :: sl 5 1 (Value.slice (some ⟨b25_, 0, none⟩) c.key.size cp26_) c.key.size (bytesV (ints c.key)) :: cl b2_ 31 [(Value.int .i64 c.T), (Value.int .i64 c.r), (Value.string c.key), (Value.string c.en), (Value.int .i64 c.n), (Value.string c.val), (Value.bool c.bare)] :: F) := (Holds.bring H32_ 1 rfl)
        refine A_op (ls' := #[true, true, true, true, true, true, true, true, true, true, true, true, false, false, false]) rfl (by kernel_rfl) (T_call (al := [(Value.string c.en)]) (pre := []) (F := sl 5 1 (Value.slice (some ⟨b25_, 0, none⟩) c.key.size cp26_) c.key.size (bytesV (ints c.key)) :: cl b2_ 31 [(Value.int .i64 c.T), (Value.int .i64 c.r), (Value.string c.key), (Value.string c.en), (Value.int .i64 c.n), (Value.string c.val), (Value.bool c.bare)] :: F) rfl rfl cb62 (kBytesOf R c.en) H36_ ?_)
        rintro v40_ p41_ w37_ ⟨⟨a33_, m34_, c35_, rfl⟩, rfl⟩ S39_ H38_
        replace H38_ : Holds w37_ (ro R :: sl 5 1 (Value.slice (some ⟨b25_, 0, none⟩) c.key.size cp26_) c.key.size (bytesV (ints c.key)) :: cl b2_ 31 [(Value.int .i64 c.T), (Value.int .i64 c.r), (Value.string c.key), (Value.string c.en), (Value.int .i64 c.n), (Value.string c.val), (Value.bool c.bare)] :: F) := H38_
        have S42_ := Same.trans S31_ S39_
        refine ⟨⟨Holds.rd H38_ 2 rfl, Holds.ro_at H38_ 0 rfl⟩, ?_⟩
        refine A_take 12 (ls' := #[true, true, true, true, true, true, true, true, true, true, true, true, true, false, false]) (v := (Value.agg #[(Value.int .i32 r10_), (Value.int .i32 r18_), (Value.slice (some ⟨b25_, 0, none⟩) c.key.size cp26_), (Value.nilIface), (Value.slice a33_ m34_ c35_)])) rfl (by kernel_rfl) (by kernel_rfl) (by kernel_rfl) (by kernel_rfl) (fun _ _ _ h => h) (fun w hS => by kernel_rfl) ⟨Holds.rd H38_ 2 rfl, Holds.ro_at H38_ 0 rfl⟩ ?_
        refine A_ready (i := 13) (rs := []) (by kernel_rfl) ?_
        refine AllR.cons ?_ AllR.nil
        refine A_op (ls' := #[true, true, true, true, true, true, true, true, true, true, true, true, true, true, false]) rfl (by kernel_rfl) (T_box (v := (Value.agg #[(Value.int .i32 r10_), (Value.int .i32 r18_), (Value.slice (some ⟨b25_, 0, none⟩) c.key.size cp26_), (Value.nilIface), (Value.slice a33_ m34_ c35_)])) rfl H38_ ?_)
        intro b43_ w44_ S46_ H45_
        replace H45_ : Holds w44_ (cl b43_ 106 [(Value.int .i32 r10_), (Value.int .i32 r18_), (Value.slice (some ⟨b25_, 0, none⟩) c.key.size cp26_), (Value.nilIface), (Value.slice a33_ m34_ c35_)] :: ro R :: sl 5 1 (Value.slice (some ⟨b25_, 0, none⟩) c.key.size cp26_) c.key.size (bytesV (ints c.key)) :: cl b2_ 31 [(Value.int .i64 c.T), (Value.int .i64 c.r), (Value.string c.key), (Value.string c.en), (Value.int .i64 c.n), (Value.string c.val), (Value.bool c.bare)] :: F) := H45_
        have S47_ := Same.trans S42_ S46_
        refine ⟨⟨Holds.rd H45_ 3 rfl, Holds.ro_at H45_ 1 rfl⟩, ?_⟩
        refine A_take 14 (ls' := #[true, true, true, true, true, true, true, true, true, true, true, true, true, true, true]) (v := (Value.pointer (some ⟨b43_, 0, none⟩))) rfl (by kernel_rfl) (by kernel_rfl) (by kernel_rfl) (by kernel_rfl) (fun _ _ _ h => h) (fun w hS => x_assign rfl) ⟨Holds.rd H45_ 3 rfl, Holds.ro_at H45_ 1 rfl⟩ ?_
        refine A_done (by kernel_rfl) ?_
        refine (X_then (hK7_ _ _ ?_))
        clear hK7_
        refine C_seq (fun K48_ hK48_ => ?_)
        refine C_seq (fun K49_ hK49_ => ?_)
        refine C_reg ?_
        refine S_list (T_val (v := (Value.pointer (some ⟨b2_, 6, none⟩))) (by kernel_rfl) ?_)
        refine S_list (T_val (v := (Value.bool c.bare)) (x_load1 rfl Try.underlying4 rfl ((Holds.rd H45_ 3 rfl) 6 (Value.bool c.bare) rfl)) ?_)
        refine wpList_nil ?_
        refine (X_then (hK49_ _ _ ?_))
        clear hK49_
        refine C_cond (b := c.bare) rfl (fun c50_t => ?_) (fun c50_f => ?_)
        · skip
          refine C_seq (fun K51_ hK51_ => ?_)
          refine C_reg ?_
          refine S_list (T_val (v := (Value.pointer (some ⟨b43_, 0, none⟩))) (x_move rfl) ?_)
          refine S_list (T_val (v := (Value.pointer (some ⟨b43_, 0, none⟩))) (x_assign rfl) ?_)
          refine wpList_nil ?_
          refine (X_then (hK51_ _ _ ?_))
          clear hK51_
          refine C_ret (X_thenR ?_)
          refine R_any (v := (Value.pointer (some ⟨b43_, 0, none⟩))) (run_results1 rfl rfl) ?_
          have H52_ : Holds w44_ (ro R :: F) := (Holds.erase (Holds.erase (Holds.erase (Holds.bring H45_ 1 rfl) 1) 1) 1)
          exact ⟨_, [], rfl, ⟨⟨_, rfl⟩, rfl⟩, S47_, H52_⟩
        · skip
          refine C_skip (X_then (hK48_ _ _ ?_))
          clear hK48_
          refine C_seq (fun K53_ hK53_ => ?_)
          refine C_seq (fun K54_ hK54_ => ?_)
          refine C_reg ?_
          refine S_list (T_val (v := (Value.pointer (some ⟨b2_, 0, none⟩))) (by kernel_rfl) ?_)
          refine S_list (T_val (v := (Value.int .i64 c.T)) (x_load1 rfl Try.underlying3 rfl ((Holds.rd H45_ 3 rfl) 0 (Value.int .i64 c.T) rfl)) ?_)
          refine wpList_nil ?_
          refine (X_then (hK54_ _ _ ?_))
          clear hK54_
          refine C_block ?_
          refine C_seq (fun K55_ hK55_ => ?_)
          refine C_reg ?_
          refine S_list (T_val (v := (Value.bool (decide (c.T = 0)))) (x_bin rfl rfl rfl) ?_)
          refine S_list (T_val (v := (Value.bool (decide (c.T = 0)))) (x_assign rfl) ?_)
          refine wpList_nil ?_
          refine (X_then (hK55_ _ _ ?_))
          clear hK55_
          refine C_cond (b := decide (c.T = 0)) rfl (fun c56_t => ?_) (fun c56_f => ?_)
          · have c56_tp : c.T = 0 := of_decide_eq_true c56_t
            refine C_reg ?_
            refine S_list (T_val (v := (Value.pointer (some ⟨b43_, 0, none⟩))) (x_move rfl) ?_)
            refine S_list (T_val (v := (Value.pointer (some ⟨b2_, 4, none⟩))) (by kernel_rfl) ?_)
            refine S_list (T_val (v := (Value.int .i64 c.n)) (x_load1 rfl Try.underlying2 rfl ((Holds.rd H45_ 3 rfl) 4 (Value.int .i64 c.n) rfl)) ?_)
            refine S_list (T_val (v := (Value.agg #[(Value.int .i64 c.n)])) (by kernel_rfl) ?_)
            refine S_list (T_box (v := (Value.agg #[(Value.int .i64 c.n)])) rfl H45_ ?_)
            intro b57_ w58_ S60_ H59_
            replace H59_ : Holds w58_ (cl b57_ 109 [(Value.int .i64 c.n)] :: cl b43_ 106 [(Value.int .i32 r10_), (Value.int .i32 r18_), (Value.slice (some ⟨b25_, 0, none⟩) c.key.size cp26_), (Value.nilIface), (Value.slice a33_ m34_ c35_)] :: ro R :: sl 5 1 (Value.slice (some ⟨b25_, 0, none⟩) c.key.size cp26_) c.key.size (bytesV (ints c.key)) :: cl b2_ 31 [(Value.int .i64 c.T), (Value.int .i64 c.r), (Value.string c.key), (Value.string c.en), (Value.int .i64 c.n), (Value.string c.val), (Value.bool c.bare)] :: F) := H59_
            have S61_ := Same.trans S47_ S60_
            refine S_list (T_val (v := (Value.iface 107 (Value.pointer (some ⟨b57_, 0, none⟩)))) (by kernel_rfl) ?_)
            refine S_list (T_val (v := (Value.pointer (some ⟨b43_, 0, none⟩))) (by kernel_rfl) ?_)
            refine S_list (T_val (v := (Value.pointer (some ⟨b43_, 3, none⟩))) (by kernel_rfl) ?_)
            refine S_list0 (T_store1 (v := (Value.iface 107 (Value.pointer (some ⟨b57_, 0, none⟩)))) rfl rfl z20 rfl H59_ 1 rfl (Nat.le_of_ble_eq_true (by rfl)) ?_)
            intro w62_ S64_ H63_
            replace H63_ : Holds w62_ (cl b57_ 109 [(Value.int .i64 c.n)] :: cl b43_ 106 [(Value.int .i32 r10_), (Value.int .i32 r18_), (Value.slice (some ⟨b25_, 0, none⟩) c.key.size cp26_), (Value.iface 107 (Value.pointer (some ⟨b57_, 0, none⟩))), (Value.slice a33_ m34_ c35_)] :: ro R :: sl 5 1 (Value.slice (some ⟨b25_, 0, none⟩) c.key.size cp26_) c.key.size (bytesV (ints c.key)) :: cl b2_ 31 [(Value.int .i64 c.T), (Value.int .i64 c.r), (Value.string c.key), (Value.string c.en), (Value.int .i64 c.n), (Value.string c.val), (Value.bool c.bare)] :: F) := H63_
            have S65_ := Same.trans S61_ S64_
            refine wpList_nil ?_
            refine (X_blkN (X_then (hK53_ _ _ ?_)))
            clear hK53_
            refine C_seq (fun K66_ hK66_ => ?_)
            refine C_reg ?_
            refine S_list (T_val (v := (Value.pointer (some ⟨b43_, 0, none⟩))) (x_move rfl) ?_)
            refine S_list (T_val (v := (Value.pointer (some ⟨b43_, 0, none⟩))) (x_assign rfl) ?_)
            refine wpList_nil ?_
            refine (X_then (hK66_ _ _ ?_))
            clear hK66_
            refine C_ret ?_
            refine R_any (v := (Value.pointer (some ⟨b43_, 0, none⟩))) (run_results1 rfl rfl) ?_
            have H67_ : Holds w62_ (ro R :: F) := (Holds.erase (Holds.erase (Holds.erase (Holds.erase (Holds.bring H63_ 2 rfl) 1) 1) 1) 1)
            exact ⟨_, [], rfl, ⟨⟨_, rfl⟩, rfl⟩, S65_, H67_⟩
          · have c56_fp : ¬ (c.T = 0) := of_decide_eq_false c56_f
            refine C_seq (fun K68_ hK68_ => ?_)
            refine C_reg ?_
            refine S_list (T_val (v := (Value.bool (decide (c.T = 1)))) (x_bin rfl rfl rfl) ?_)
            refine S_list (T_val (v := (Value.bool (decide (c.T = 1)))) (x_assign rfl) ?_)
            refine wpList_nil ?_
            refine (X_then (hK68_ _ _ ?_))
            clear hK68_
            refine C_cond (b := decide (c.T = 1)) rfl (fun c69_t => ?_) (fun c69_f => ?_)
            · have c69_tp : c.T = 1 := of_decide_eq_true c69_t
              refine C_reg ?_
              refine S_list (T_val (v := (Value.pointer (some ⟨b43_, 0, none⟩))) (x_move rfl) ?_)
              refine S_list (T_val (v := (Value.pointer (some ⟨b2_, 4, none⟩))) (by kernel_rfl) ?_)
              refine S_list (T_val (v := (Value.int .i64 c.n)) (x_load1 rfl Try.underlying2 rfl ((Holds.rd H45_ 3 rfl) 4 (Value.int .i64 c.n) rfl)) ?_)
              refine S_list (T_val (v := (Value.agg #[(Value.int .i64 c.n)])) (by kernel_rfl) ?_)
              refine S_list (T_box (v := (Value.agg #[(Value.int .i64 c.n)])) rfl H45_ ?_)
              intro b70_ w71_ S73_ H72_
              replace H72_ : Holds w71_ (cl b70_ 112 [(Value.int .i64 c.n)] :: cl b43_ 106 [(Value.int .i32 r10_), (Value.int .i32 r18_), (Value.slice (some ⟨b25_, 0, none⟩) c.key.size cp26_), (Value.nilIface), (Value.slice a33_ m34_ c35_)] :: ro R :: sl 5 1 (Value.slice (some ⟨b25_, 0, none⟩) c.key.size cp26_) c.key.size (bytesV (ints c.key)) :: cl b2_ 31 [(Value.int .i64 c.T), (Value.int .i64 c.r), (Value.string c.key), (Value.string c.en), (Value.int .i64 c.n), (Value.string c.val), (Value.bool c.bare)] :: F) := H72_
              have S74_ := Same.trans S47_ S73_
              refine S_list (T_val (v := (Value.iface 110 (Value.pointer (some ⟨b70_, 0, none⟩)))) (by kernel_rfl) ?_)
              refine S_list (T_val (v := (Value.pointer (some ⟨b43_, 0, none⟩))) (by kernel_rfl) ?_)
              refine S_list (T_val (v := (Value.pointer (some ⟨b43_, 3, none⟩))) (by kernel_rfl) ?_)
              refine S_list0 (T_store1 (v := (Value.iface 110 (Value.pointer (some ⟨b70_, 0, none⟩)))) rfl rfl z20 rfl H72_ 1 rfl (Nat.le_of_ble_eq_true (by rfl)) ?_)
              intro w75_ S77_ H76_
              replace H76_ : Holds w75_ (cl b70_ 112 [(Value.int .i64 c.n)] :: cl b43_ 106 [(Value.int .i32 r10_), (Value.int .i32 r18_), (Value.slice (some ⟨b25_, 0, none⟩) c.key.size cp26_), (Value.iface 110 (Value.pointer (some ⟨b70_, 0, none⟩))), (Value.slice a33_ m34_ c35_)] :: ro R :: sl 5 1 (Value.slice (some ⟨b25_, 0, none⟩) c.key.size cp26_) c.key.size (bytesV (ints c.key)) :: cl b2_ 31 [(Value.int .i64 c.T), (Value.int .i64 c.r), (Value.string c.key), (Value.string c.en), (Value.int .i64 c.n), (Value.string c.val), (Value.bool c.bare)] :: F) := H76_
              have S78_ := Same.trans S74_ S77_
              refine wpList_nil ?_
              refine (X_blkN (X_then (hK53_ _ _ ?_)))
              clear hK53_
              refine C_seq (fun K79_ hK79_ => ?_)
              refine C_reg ?_
              refine S_list (T_val (v := (Value.pointer (some ⟨b43_, 0, none⟩))) (x_move rfl) ?_)
              refine S_list (T_val (v := (Value.pointer (some ⟨b43_, 0, none⟩))) (x_assign rfl) ?_)
              refine wpList_nil ?_
              refine (X_then (hK79_ _ _ ?_))
              clear hK79_
              refine C_ret ?_
              refine R_any (v := (Value.pointer (some ⟨b43_, 0, none⟩))) (run_results1 rfl rfl) ?_
              have H80_ : Holds w75_ (ro R :: F) := (Holds.erase (Holds.erase (Holds.erase (Holds.erase (Holds.bring H76_ 2 rfl) 1) 1) 1) 1)
              exact ⟨_, [], rfl, ⟨⟨_, rfl⟩, rfl⟩, S78_, H80_⟩
            · have c69_fp : ¬ (c.T = 1) := of_decide_eq_false c69_f
              refine C_seq (fun K81_ hK81_ => ?_)
              refine C_reg ?_
              refine S_list (T_val (v := (Value.bool (decide (c.T = 2)))) (x_bin rfl rfl rfl) ?_)
              refine S_list (T_val (v := (Value.bool (decide (c.T = 2)))) (x_assign rfl) ?_)
              refine wpList_nil ?_
              refine (X_then (hK81_ _ _ ?_))
              clear hK81_
              refine C_cond (b := decide (c.T = 2)) rfl (fun c82_t => ?_) (fun c82_f => ?_)
              · have c82_tp : c.T = 2 := of_decide_eq_true c82_t
                refine C_reg ?_
                refine S_list (T_val (v := (Value.pointer (some ⟨b43_, 0, none⟩))) (x_move rfl) ?_)
                refine S_list (T_val (v := (Value.pointer (some ⟨b2_, 4, none⟩))) (by kernel_rfl) ?_)
                refine S_list (T_val (v := (Value.int .i64 c.n)) (x_load1 rfl Try.underlying2 rfl ((Holds.rd H45_ 3 rfl) 4 (Value.int .i64 c.n) rfl)) ?_)
                refine S_list (T_val (v := (Value.agg #[(Value.int .i64 c.n)])) (by kernel_rfl) ?_)
                refine S_list (T_box (v := (Value.agg #[(Value.int .i64 c.n)])) rfl H45_ ?_)
                intro b83_ w84_ S86_ H85_
                replace H85_ : Holds w84_ (cl b83_ 115 [(Value.int .i64 c.n)] :: cl b43_ 106 [(Value.int .i32 r10_), (Value.int .i32 r18_), (Value.slice (some ⟨b25_, 0, none⟩) c.key.size cp26_), (Value.nilIface), (Value.slice a33_ m34_ c35_)] :: ro R :: sl 5 1 (Value.slice (some ⟨b25_, 0, none⟩) c.key.size cp26_) c.key.size (bytesV (ints c.key)) :: cl b2_ 31 [(Value.int .i64 c.T), (Value.int .i64 c.r), (Value.string c.key), (Value.string c.en), (Value.int .i64 c.n), (Value.string c.val), (Value.bool c.bare)] :: F) := H85_
                have S87_ := Same.trans S47_ S86_
                refine S_list (T_val (v := (Value.iface 113 (Value.pointer (some ⟨b83_, 0, none⟩)))) (by kernel_rfl) ?_)
                refine S_list (T_val (v := (Value.pointer (some ⟨b43_, 0, none⟩))) (by kernel_rfl) ?_)
                refine S_list (T_val (v := (Value.pointer (some ⟨b43_, 3, none⟩))) (by kernel_rfl) ?_)
                refine S_list0 (T_store1 (v := (Value.iface 113 (Value.pointer (some ⟨b83_, 0, none⟩)))) rfl rfl z20 rfl H85_ 1 rfl (Nat.le_of_ble_eq_true (by rfl)) ?_)
                intro w88_ S90_ H89_
                replace H89_ : Holds w88_ (cl b83_ 115 [(Value.int .i64 c.n)] :: cl b43_ 106 [(Value.int .i32 r10_), (Value.int .i32 r18_), (Value.slice (some ⟨b25_, 0, none⟩) c.key.size cp26_), (Value.iface 113 (Value.pointer (some ⟨b83_, 0, none⟩))), (Value.slice a33_ m34_ c35_)] :: ro R :: sl 5 1 (Value.slice (some ⟨b25_, 0, none⟩) c.key.size cp26_) c.key.size (bytesV (ints c.key)) :: cl b2_ 31 [(Value.int .i64 c.T), (Value.int .i64 c.r), (Value.string c.key), (Value.string c.en), (Value.int .i64 c.n), (Value.string c.val), (Value.bool c.bare)] :: F) := H89_
                have S91_ := Same.trans S87_ S90_
                refine wpList_nil ?_
                refine (X_blkN (X_then (hK53_ _ _ ?_)))
                clear hK53_
                refine C_seq (fun K92_ hK92_ => ?_)
                refine C_reg ?_
                refine S_list (T_val (v := (Value.pointer (some ⟨b43_, 0, none⟩))) (x_move rfl) ?_)
                refine S_list (T_val (v := (Value.pointer (some ⟨b43_, 0, none⟩))) (x_assign rfl) ?_)
                refine wpList_nil ?_
                refine (X_then (hK92_ _ _ ?_))
                clear hK92_
                refine C_ret ?_
                refine R_any (v := (Value.pointer (some ⟨b43_, 0, none⟩))) (run_results1 rfl rfl) ?_
                have H93_ : Holds w88_ (ro R :: F) := (Holds.erase (Holds.erase (Holds.erase (Holds.erase (Holds.bring H89_ 2 rfl) 1) 1) 1) 1)
                exact ⟨_, [], rfl, ⟨⟨_, rfl⟩, rfl⟩, S91_, H93_⟩
              · have c82_fp : ¬ (c.T = 2) := of_decide_eq_false c82_f
                refine C_seq (fun K94_ hK94_ => ?_)
                refine C_reg ?_
                refine S_list (T_val (v := (Value.bool (decide (c.T = 3)))) (x_bin rfl rfl rfl) ?_)
                refine S_list (T_val (v := (Value.bool (decide (c.T = 3)))) (x_assign rfl) ?_)
                refine wpList_nil ?_
                refine (X_then (hK94_ _ _ ?_))
                clear hK94_
                refine C_cond (b := decide (c.T = 3)) rfl (fun c95_t => ?_) (fun c95_f => ?_)
                · have c95_tp : c.T = 3 := of_decide_eq_true c95_t
                  refine C_reg ?_
                  refine S_list (T_val (v := (Value.pointer (some ⟨b43_, 0, none⟩))) (x_move rfl) ?_)
                  refine S_list (T_val (v := (Value.pointer (some ⟨b2_, 5, none⟩))) (by kernel_rfl) ?_)
                  refine S_list (T_val (v := (Value.string c.val)) (x_load1 rfl Try.underlying9 rfl ((Holds.rd H45_ 3 rfl) 5 (Value.string c.val) rfl)) ?_)
                  refine S_list (T_s2b rfl Try.underlying9 Try.underlying25 Try.underlying5 H45_ ?_)
                  intro b96_ cp97_ w98_ S100_ hc101_ H99_
                  have S102_ := Same.trans S47_ S100_
                  have H103_ : Holds w98_ (sl 5 1 (Value.slice (some ⟨b96_, 0, none⟩) c.val.size cp97_) c.val.size (bytesV (ints c.val)) :: cl b43_ 106 [(Value.int .i32 r10_), (Value.int .i32 r18_), (Value.slice (some ⟨b25_, 0, none⟩) c.key.size cp26_), (Value.nilIface), (Value.slice a33_ m34_ c35_)] :: ro R :: sl 5 1 (Value.slice (some ⟨b25_, 0, none⟩) c.key.size cp26_) c.key.size (bytesV (ints c.key)) :: cl b2_ 31 [(Value.int .i64 c.T), (Value.int .i64 c.r), (Value.string c.key), (Value.string c.en), (Value.int .i64 c.n), (Value.string c.val), (Value.bool c.bare)] :: F) := cast2 (P := fun (c__ : List Value) (k__ : Nat) => Holds w98_ (sl 5 1 (Value.slice (some ⟨b96_, 0, none⟩) c.val.size cp97_) k__ c__ :: cl b43_ 106 [(Value.int .i32 r10_), (Value.int .i32 r18_), (Value.slice (some ⟨b25_, 0, none⟩) c.key.size cp26_), (Value.nilIface), (Value.slice a33_ m34_ c35_)] :: ro R :: sl 5 1 (Value.slice (some ⟨b25_, 0, none⟩) c.key.size cp26_) c.key.size (bytesV (ints c.key)) :: cl b2_ 31 [(Value.int .i64 c.T), (Value.int .i64 c.r), (Value.string c.key), (Value.string c.en), (Value.int .i64 c.n), (Value.string c.val), (Value.bool c.bare)] :: F)) (byteCells_bytesV _ : byteCells c.val = bytesV (ints c.val)) (rfl : c.val.size = c.val.size) H99_
                  refine S_list (T_val (v := (Value.agg #[(Value.slice (some ⟨b96_, 0, none⟩) c.val.size cp97_)])) (by kernel_rfl) ?_)
                  refine S_list (T_box (v := (Value.agg #[(Value.slice (some ⟨b96_, 0, none⟩) c.val.size cp97_)])) rfl H103_ ?_)
                  intro b104_ w105_ S107_ H106_
                  replace H106_ : Holds w105_ (cl b104_ 118 [(Value.slice (some ⟨b96_, 0, none⟩) c.val.size cp97_)] :: sl 5 1 (Value.slice (some ⟨b96_, 0, none⟩) c.val.size cp97_) c.val.size (bytesV (ints c.val)) :: cl b43_ 106 [(Value.int .i32 r10_), (Value.int .i32 r18_), (Value.slice (some ⟨b25_, 0, none⟩) c.key.size cp26_), (Value.nilIface), (Value.slice a33_ m34_ c35_)] :: ro R :: sl 5 1 (Value.slice (some ⟨b25_, 0, none⟩) c.key.size cp26_) c.key.size (bytesV (ints c.key)) :: cl b2_ 31 [(Value.int .i64 c.T), (Value.int .i64 c.r), (Value.string c.key), (Value.string c.en), (Value.int .i64 c.n), (Value.string c.val), (Value.bool c.bare)] :: F) := H106_
                  have S108_ := Same.trans S102_ S107_
                  refine S_list (T_val (v := (Value.iface 116 (Value.pointer (some ⟨b104_, 0, none⟩)))) (by kernel_rfl) ?_)
                  refine S_list (T_val (v := (Value.pointer (some ⟨b43_, 0, none⟩))) (by kernel_rfl) ?_)
                  refine S_list (T_val (v := (Value.pointer (some ⟨b43_, 3, none⟩))) (by kernel_rfl) ?_)
                  refine S_list0 (T_store1 (v := (Value.iface 116 (Value.pointer (some ⟨b104_, 0, none⟩)))) rfl rfl z20 rfl H106_ 2 rfl (Nat.le_of_ble_eq_true (by rfl)) ?_)
                  intro w109_ S111_ H110_
                  replace H110_ : Holds w109_ (cl b104_ 118 [(Value.slice (some ⟨b96_, 0, none⟩) c.val.size cp97_)] :: sl 5 1 (Value.slice (some ⟨b96_, 0, none⟩) c.val.size cp97_) c.val.size (bytesV (ints c.val)) :: cl b43_ 106 [(Value.int .i32 r10_), (Value.int .i32 r18_), (Value.slice (some ⟨b25_, 0, none⟩) c.key.size cp26_), (Value.iface 116 (Value.pointer (some ⟨b104_, 0, none⟩))), (Value.slice a33_ m34_ c35_)] :: ro R :: sl 5 1 (Value.slice (some ⟨b25_, 0, none⟩) c.key.size cp26_) c.key.size (bytesV (ints c.key)) :: cl b2_ 31 [(Value.int .i64 c.T), (Value.int .i64 c.r), (Value.string c.key), (Value.string c.en), (Value.int .i64 c.n), (Value.string c.val), (Value.bool c.bare)] :: F) := H110_
                  have S112_ := Same.trans S108_ S111_
                  refine wpList_nil ?_
                  refine (X_blkN (X_then (hK53_ _ _ ?_)))
                  clear hK53_
                  refine C_seq (fun K113_ hK113_ => ?_)
                  refine C_reg ?_
                  refine S_list (T_val (v := (Value.pointer (some ⟨b43_, 0, none⟩))) (x_move rfl) ?_)
                  refine S_list (T_val (v := (Value.pointer (some ⟨b43_, 0, none⟩))) (x_assign rfl) ?_)
                  refine wpList_nil ?_
                  refine (X_then (hK113_ _ _ ?_))
                  clear hK113_
                  refine C_ret ?_
                  refine R_any (v := (Value.pointer (some ⟨b43_, 0, none⟩))) (run_results1 rfl rfl) ?_
                  have H114_ : Holds w109_ (ro R :: F) := (Holds.erase (Holds.erase (Holds.erase (Holds.erase (Holds.erase (Holds.bring H110_ 3 rfl) 1) 1) 1) 1) 1)
                  exact ⟨_, [], rfl, ⟨⟨_, rfl⟩, rfl⟩, S112_, H114_⟩
                · have c95_fp : ¬ (c.T = 3) := of_decide_eq_false c95_f
                  refine C_seq (fun K115_ hK115_ => ?_)
                  refine C_reg ?_
                  refine S_list (T_val (v := (Value.bool (decide (c.T = 4)))) (x_bin rfl rfl rfl) ?_)
                  refine S_list (T_val (v := (Value.bool (decide (c.T = 4)))) (x_assign rfl) ?_)
                  refine wpList_nil ?_
                  refine (X_then (hK115_ _ _ ?_))
                  clear hK115_
                  refine C_cond (b := decide (c.T = 4)) rfl (fun c116_t => ?_) (fun c116_f => ?_)
                  · have c116_tp : c.T = 4 := of_decide_eq_true c116_t
                    refine C_reg ?_
                    refine S_list (T_val (v := (Value.pointer (some ⟨b43_, 0, none⟩))) (x_move rfl) ?_)
                    refine S_list (T_val (v := (Value.pointer (some ⟨b2_, 4, none⟩))) (by kernel_rfl) ?_)
                    refine S_list (T_val (v := (Value.int .i64 c.n)) (x_load1 rfl Try.underlying2 rfl ((Holds.rd H45_ 3 rfl) 4 (Value.int .i64 c.n) rfl)) ?_)
                    refine S_list (T_val (v := (Value.agg #[(Value.int .i64 c.n)])) (by kernel_rfl) ?_)
                    refine S_list (T_box (v := (Value.agg #[(Value.int .i64 c.n)])) rfl H45_ ?_)
                    intro b117_ w118_ S120_ H119_
                    replace H119_ : Holds w118_ (cl b117_ 121 [(Value.int .i64 c.n)] :: cl b43_ 106 [(Value.int .i32 r10_), (Value.int .i32 r18_), (Value.slice (some ⟨b25_, 0, none⟩) c.key.size cp26_), (Value.nilIface), (Value.slice a33_ m34_ c35_)] :: ro R :: sl 5 1 (Value.slice (some ⟨b25_, 0, none⟩) c.key.size cp26_) c.key.size (bytesV (ints c.key)) :: cl b2_ 31 [(Value.int .i64 c.T), (Value.int .i64 c.r), (Value.string c.key), (Value.string c.en), (Value.int .i64 c.n), (Value.string c.val), (Value.bool c.bare)] :: F) := H119_
                    have S121_ := Same.trans S47_ S120_
                    refine S_list (T_val (v := (Value.iface 119 (Value.pointer (some ⟨b117_, 0, none⟩)))) (by kernel_rfl) ?_)
                    refine S_list (T_val (v := (Value.pointer (some ⟨b43_, 0, none⟩))) (by kernel_rfl) ?_)
                    refine S_list (T_val (v := (Value.pointer (some ⟨b43_, 3, none⟩))) (by kernel_rfl) ?_)
                    refine S_list0 (T_store1 (v := (Value.iface 119 (Value.pointer (some ⟨b117_, 0, none⟩)))) rfl rfl z20 rfl H119_ 1 rfl (Nat.le_of_ble_eq_true (by rfl)) ?_)
                    intro w122_ S124_ H123_
                    replace H123_ : Holds w122_ (cl b117_ 121 [(Value.int .i64 c.n)] :: cl b43_ 106 [(Value.int .i32 r10_), (Value.int .i32 r18_), (Value.slice (some ⟨b25_, 0, none⟩) c.key.size cp26_), (Value.iface 119 (Value.pointer (some ⟨b117_, 0, none⟩))), (Value.slice a33_ m34_ c35_)] :: ro R :: sl 5 1 (Value.slice (some ⟨b25_, 0, none⟩) c.key.size cp26_) c.key.size (bytesV (ints c.key)) :: cl b2_ 31 [(Value.int .i64 c.T), (Value.int .i64 c.r), (Value.string c.key), (Value.string c.en), (Value.int .i64 c.n), (Value.string c.val), (Value.bool c.bare)] :: F) := H123_
                    have S125_ := Same.trans S121_ S124_
                    refine wpList_nil ?_
                    refine (X_blkN (X_then (hK53_ _ _ ?_)))
                    clear hK53_
                    refine C_seq (fun K126_ hK126_ => ?_)
                    refine C_reg ?_
                    refine S_list (T_val (v := (Value.pointer (some ⟨b43_, 0, none⟩))) (x_move rfl) ?_)
                    refine S_list (T_val (v := (Value.pointer (some ⟨b43_, 0, none⟩))) (x_assign rfl) ?_)
                    refine wpList_nil ?_
                    refine (X_then (hK126_ _ _ ?_))
                    clear hK126_
                    refine C_ret ?_
                    refine R_any (v := (Value.pointer (some ⟨b43_, 0, none⟩))) (run_results1 rfl rfl) ?_
                    have H127_ : Holds w122_ (ro R :: F) := (Holds.erase (Holds.erase (Holds.erase (Holds.erase (Holds.bring H123_ 2 rfl) 1) 1) 1) 1)
                    exact ⟨_, [], rfl, ⟨⟨_, rfl⟩, rfl⟩, S125_, H127_⟩
                  · have c116_fp : ¬ (c.T = 4) := of_decide_eq_false c116_f
                    refine C_skip (X_blkN (X_then (hK53_ _ _ ?_)))
                    clear hK53_
                    refine C_seq (fun K128_ hK128_ => ?_)
                    refine C_reg ?_
                    refine S_list (T_val (v := (Value.pointer (some ⟨b43_, 0, none⟩))) (x_move rfl) ?_)
                    refine S_list (T_val (v := (Value.pointer (some ⟨b43_, 0, none⟩))) (x_assign rfl) ?_)
                    refine wpList_nil ?_
                    refine (X_then (hK128_ _ _ ?_))
                    clear hK128_
                    refine C_ret ?_
                    refine R_any (v := (Value.pointer (some ⟨b43_, 0, none⟩))) (run_results1 rfl rfl) ?_
                    have H129_ : Holds w44_ (ro R :: F) := (Holds.erase (Holds.erase (Holds.erase (Holds.bring H45_ 1 rfl) 1) 1) 1)
                    exact ⟨_, [], rfl, ⟨⟨_, rfl⟩, rfl⟩, S47_, H129_⟩
      refine AllR.cons ?_ AllR.nil
      refine A_op (ls' := #[true, true, true, true, true, true, true, true, false, true, true, true, false, false, false]) rfl (by kernel_rfl) (T_call (al := [(Value.string c.en)]) (pre := []) (F := cl b2_ 31 [(Value.int .i64 c.T), (Value.int .i64 c.r), (Value.string c.key), (Value.string c.en), (Value.int .i64 c.n), (Value.string c.val), (Value.bool c.bare)] :: F) rfl rfl cb62 (kBytesOf R c.en) H20_ ?_)
      rintro v136_ p137_ w133_ ⟨⟨a130_, m131_, c132_, rfl⟩, rfl⟩ S135_ H134_
      replace H134_ : Holds w133_ (ro R :: cl b2_ 31 [(Value.int .i64 c.T), (Value.int .i64 c.r), (Value.string c.key), (Value.string c.en), (Value.int .i64 c.n), (Value.string c.val), (Value.bool c.bare)] :: F) := H134_
      have S138_ := Same.trans S24_ S135_
      refine ⟨⟨Holds.rd H134_ 1 rfl, Holds.ro_at H134_ 0 rfl⟩, ?_⟩
      refine A_ready (i := 8) (rs := []) (by kernel_rfl) ?_
      refine AllR.cons ?_ AllR.nil
      refine A_op (ls' := #[true, true, true, true, true, true, true, true, true, true, true, true, false, false, false]) rfl (by kernel_rfl) (T_s2b rfl Try.underlying9 Try.underlying25 Try.underlying5 H134_ ?_)
      intro b139_ cp140_ w141_ S143_ hc144_ H142_
      have S145_ := Same.trans S138_ S143_
      have H146_ : Holds w141_ (sl 5 1 (Value.slice (some ⟨b139_, 0, none⟩) c.key.size cp140_) c.key.size (bytesV (ints c.key)) :: ro R :: cl b2_ 31 [(Value.int .i64 c.T), (Value.int .i64 c.r), (Value.string c.key), (Value.string c.en), (Value.int .i64 c.n), (Value.string c.val), (Value.bool c.bare)] :: F) := cast2 (P := fun (c__ : List Value) (k__ : Nat) => Holds w141_ (sl 5 1 (Value.slice (some ⟨b139_, 0, none⟩) c.key.size cp140_) k__ c__ :: ro R :: cl b2_ 31 [(Value.int .i64 c.T), (Value.int .i64 c.r), (Value.string c.key), (Value.string c.en), (Value.int .i64 c.n), (Value.string c.val), (Value.bool c.bare)] :: F)) (byteCells_bytesV _ : byteCells c.key = bytesV (ints c.key)) (rfl : c.key.size = c.key.size) H142_
      refine ⟨⟨Holds.rd H146_ 2 rfl, Holds.ro_at H146_ 1 rfl⟩, ?_⟩
      refine A_take 12 (ls' := #[true, true, true, true, true, true, true, true, true, true, true, true, true, false, false]) (v := (Value.agg #[(Value.int .i32 r10_), (Value.int .i32 r18_), (Value.slice (some ⟨b139_, 0, none⟩) c.key.size cp140_), (Value.nilIface), (Value.slice a130_ m131_ c132_)])) rfl (by kernel_rfl) (by kernel_rfl) (by kernel_rfl) (by kernel_rfl) (fun _ _ _ h => h) (fun w hS => by kernel_rfl) ⟨Holds.rd H146_ 2 rfl, Holds.ro_at H146_ 1 rfl⟩ ?_
      refine A_ready (i := 13) (rs := []) (by kernel_rfl) ?_
      refine AllR.cons ?_ AllR.nil
      refine A_op (ls' := #[true, true, true, true, true, true, true, true, true, true, true, true, true, true, false]) rfl (by kernel_rfl) (T_box (v := (Value.agg #[(Value.int .i32 r10_), (Value.int .i32 r18_), (Value.slice (some ⟨b139_, 0, none⟩) c.key.size cp140_), (Value.nilIface), (Value.slice a130_ m131_ c132_)])) rfl H146_ ?_)
      intro b147_ w148_ S150_ H149_
      replace H149_ : Holds w148_ (cl b147_ 106 [(Value.int .i32 r10_), (Value.int .i32 r18_), (Value.slice (some ⟨b139_, 0, none⟩) c.key.size cp140_), (Value.nilIface), (Value.slice a130_ m131_ c132_)] :: sl 5 1 (Value.slice (some ⟨b139_, 0, none⟩) c.key.size cp140_) c.key.size (bytesV (ints c.key)) :: ro R :: cl b2_ 31 [(Value.int .i64 c.T), (Value.int .i64 c.r), (Value.string c.key), (Value.string c.en), (Value.int .i64 c.n), (Value.string c.val), (Value.bool c.bare)] :: F) := H149_
      have S151_ := Same.trans S145_ S150_
      refine ⟨⟨Holds.rd H149_ 3 rfl, Holds.ro_at H149_ 2 rfl⟩, ?_⟩
      refine A_take 14 (ls' := #[true, true, true, true, true, true, true, true, true, true, true, true, true, true, true]) (v := (Value.pointer (some ⟨b147_, 0, none⟩))) rfl (by kernel_rfl) (by kernel_rfl) (by kernel_rfl) (by kernel_rfl) (fun _ _ _ h => h) (fun w hS => x_assign rfl) ⟨Holds.rd H149_ 3 rfl, Holds.ro_at H149_ 2 rfl⟩ ?_
      refine A_done (by kernel_rfl) ?_
      refine (X_then (hK7_ _ _ ?_))
      clear hK7_
      refine C_seq (fun K152_ hK152_ => ?_)
      refine C_seq (fun K153_ hK153_ => ?_)
      refine C_reg ?_
      refine S_list (T_val (v := (Value.pointer (some ⟨b2_, 6, none⟩))) (by kernel_rfl) ?_)
      refine S_list (T_val (v := (Value.bool c.bare)) (x_load1 rfl Try.underlying4 rfl ((Holds.rd H149_ 3 rfl) 6 (Value.bool c.bare) rfl)) ?_)
      refine wpList_nil ?_
      refine (X_then (hK153_ _ _ ?_))
      clear hK153_
      refine C_cond (b := c.bare) rfl (fun c154_t => ?_) (fun c154_f => ?_)
      · skip
        refine C_seq (fun K155_ hK155_ => ?_)
        refine C_reg ?_
        refine S_list (T_val (v := (Value.pointer (some ⟨b147_, 0, none⟩))) (x_move rfl) ?_)
        refine S_list (T_val (v := (Value.pointer (some ⟨b147_, 0, none⟩))) (x_assign rfl) ?_)
        refine wpList_nil ?_
        refine (X_then (hK155_ _ _ ?_))
        clear hK155_
        refine C_ret (X_thenR ?_)
        refine R_any (v := (Value.pointer (some ⟨b147_, 0, none⟩))) (run_results1 rfl rfl) ?_
        have H156_ : Holds w148_ (ro R :: F) := (Holds.erase (Holds.erase (Holds.erase (Holds.bring H149_ 2 rfl) 1) 1) 1)
        exact ⟨_, [], rfl, ⟨⟨_, rfl⟩, rfl⟩, S151_, H156_⟩
      · skip
        refine C_skip (X_then (hK152_ _ _ ?_))
        clear hK152_
        refine C_seq (fun K157_ hK157_ => ?_)
        refine C_seq (fun K158_ hK158_ => ?_)
        refine C_reg ?_
        refine S_list (T_val (v := (Value.pointer (some ⟨b2_, 0, none⟩))) (by kernel_rfl) ?_)
        refine S_list (T_val (v := (Value.int .i64 c.T)) (x_load1 rfl Try.underlying3 rfl ((Holds.rd H149_ 3 rfl) 0 (Value.int .i64 c.T) rfl)) ?_)
        refine wpList_nil ?_
        refine (X_then (hK158_ _ _ ?_))
        clear hK158_
        refine C_block ?_
        refine C_seq (fun K159_ hK159_ => ?_)
        refine C_reg ?_
        refine S_list (T_val (v := (Value.bool (decide (c.T = 0)))) (x_bin rfl rfl rfl) ?_)
        refine S_list (T_val (v := (Value.bool (decide (c.T = 0)))) (x_assign rfl) ?_)
        refine wpList_nil ?_
        refine (X_then (hK159_ _ _ ?_))
        clear hK159_
        refine C_cond (b := decide (c.T = 0)) rfl (fun c160_t => ?_) (fun c160_f => ?_)
        · have c160_tp : c.T = 0 := of_decide_eq_true c160_t
          refine C_reg ?_
          refine S_list (T_val (v := (Value.pointer (some ⟨b147_, 0, none⟩))) (x_move rfl) ?_)
          refine S_list (T_val (v := (Value.pointer (some ⟨b2_, 4, none⟩))) (by kernel_rfl) ?_)
          refine S_list (T_val (v := (Value.int .i64 c.n)) (x_load1 rfl Try.underlying2 rfl ((Holds.rd H149_ 3 rfl) 4 (Value.int .i64 c.n) rfl)) ?_)
          refine S_list (T_val (v := (Value.agg #[(Value.int .i64 c.n)])) (by kernel_rfl) ?_)
          refine S_list (T_box (v := (Value.agg #[(Value.int .i64 c.n)])) rfl H149_ ?_)
          intro b161_ w162_ S164_ H163_
          replace H163_ : Holds w162_ (cl b161_ 109 [(Value.int .i64 c.n)] :: cl b147_ 106 [(Value.int .i32 r10_), (Value.int .i32 r18_), (Value.slice (some ⟨b139_, 0, none⟩) c.key.size cp140_), (Value.nilIface), (Value.slice a130_ m131_ c132_)] :: sl 5 1 (Value.slice (some ⟨b139_, 0, none⟩) c.key.size cp140_) c.key.size (bytesV (ints c.key)) :: ro R :: cl b2_ 31 [(Value.int .i64 c.T), (Value.int .i64 c.r), (Value.string c.key), (Value.string c.en), (Value.int .i64 c.n), (Value.string c.val), (Value.bool c.bare)] :: F) := H163_
          have S165_ := Same.trans S151_ S164_
          refine S_list (T_val (v := (Value.iface 107 (Value.pointer (some ⟨b161_, 0, none⟩)))) (by kernel_rfl) ?_)
          refine S_list (T_val (v := (Value.pointer (some ⟨b147_, 0, none⟩))) (by kernel_rfl) ?_)
          refine S_list (T_val (v := (Value.pointer (some ⟨b147_, 3, none⟩))) (by kernel_rfl) ?_)
          refine S_list0 (T_store1 (v := (Value.iface 107 (Value.pointer (some ⟨b161_, 0, none⟩)))) rfl rfl z20 rfl H163_ 1 rfl (Nat.le_of_ble_eq_true (by rfl)) ?_)
          intro w166_ S168_ H167_
          replace H167_ : Holds w166_ (cl b161_ 109 [(Value.int .i64 c.n)] :: cl b147_ 106 [(Value.int .i32 r10_), (Value.int .i32 r18_), (Value.slice (some ⟨b139_, 0, none⟩) c.key.size cp140_), (Value.iface 107 (Value.pointer (some ⟨b161_, 0, none⟩))), (Value.slice a130_ m131_ c132_)] :: sl 5 1 (Value.slice (some ⟨b139_, 0, none⟩) c.key.size cp140_) c.key.size (bytesV (ints c.key)) :: ro R :: cl b2_ 31 [(Value.int .i64 c.T), (Value.int .i64 c.r), (Value.string c.key), (Value.string c.en), (Value.int .i64 c.n), (Value.string c.val), (Value.bool c.bare)] :: F) := H167_
          have S169_ := Same.trans S165_ S168_
          refine wpList_nil ?_
          refine (X_blkN (X_then (hK157_ _ _ ?_)))
          clear hK157_
          refine C_seq (fun K170_ hK170_ => ?_)
          refine C_reg ?_
          refine S_list (T_val (v := (Value.pointer (some ⟨b147_, 0, none⟩))) (x_move rfl) ?_)
          refine S_list (T_val (v := (Value.pointer (some ⟨b147_, 0, none⟩))) (x_assign rfl) ?_)
          refine wpList_nil ?_
          refine (X_then (hK170_ _ _ ?_))
          clear hK170_
          refine C_ret ?_
          refine R_any (v := (Value.pointer (some ⟨b147_, 0, none⟩))) (run_results1 rfl rfl) ?_
          have H171_ : Holds w166_ (ro R :: F) := (Holds.erase (Holds.erase (Holds.erase (Holds.erase (Holds.bring H167_ 3 rfl) 1) 1) 1) 1)
          exact ⟨_, [], rfl, ⟨⟨_, rfl⟩, rfl⟩, S169_, H171_⟩
        · have c160_fp : ¬ (c.T = 0) := of_decide_eq_false c160_f
          refine C_seq (fun K172_ hK172_ => ?_)
          refine C_reg ?_
          refine S_list (T_val (v := (Value.bool (decide (c.T = 1)))) (x_bin rfl rfl rfl) ?_)
          refine S_list (T_val (v := (Value.bool (decide (c.T = 1)))) (x_assign rfl) ?_)
          refine wpList_nil ?_
          refine (X_then (hK172_ _ _ ?_))
          clear hK172_
          refine C_cond (b := decide (c.T = 1)) rfl (fun c173_t => ?_) (fun c173_f => ?_)
          · have c173_tp : c.T = 1 := of_decide_eq_true c173_t
            refine C_reg ?_
            refine S_list (T_val (v := (Value.pointer (some ⟨b147_, 0, none⟩))) (x_move rfl) ?_)
            refine S_list (T_val (v := (Value.pointer (some ⟨b2_, 4, none⟩))) (by kernel_rfl) ?_)
            refine S_list (T_val (v := (Value.int .i64 c.n)) (x_load1 rfl Try.underlying2 rfl ((Holds.rd H149_ 3 rfl) 4 (Value.int .i64 c.n) rfl)) ?_)
            refine S_list (T_val (v := (Value.agg #[(Value.int .i64 c.n)])) (by kernel_rfl) ?_)
            refine S_list (T_box (v := (Value.agg #[(Value.int .i64 c.n)])) rfl H149_ ?_)
            intro b174_ w175_ S177_ H176_
            replace H176_ : Holds w175_ (cl b174_ 112 [(Value.int .i64 c.n)] :: cl b147_ 106 [(Value.int .i32 r10_), (Value.int .i32 r18_), (Value.slice (some ⟨b139_, 0, none⟩) c.key.size cp140_), (Value.nilIface), (Value.slice a130_ m131_ c132_)] :: sl 5 1 (Value.slice (some ⟨b139_, 0, none⟩) c.key.size cp140_) c.key.size (bytesV (ints c.key)) :: ro R :: cl b2_ 31 [(Value.int .i64 c.T), (Value.int .i64 c.r), (Value.string c.key), (Value.string c.en), (Value.int .i64 c.n), (Value.string c.val), (Value.bool c.bare)] :: F) := H176_
            have S178_ := Same.trans S151_ S177_
            refine S_list (T_val (v := (Value.iface 110 (Value.pointer (some ⟨b174_, 0, none⟩)))) (by kernel_rfl) ?_)
            refine S_list (T_val (v := (Value.pointer (some ⟨b147_, 0, none⟩))) (by kernel_rfl) ?_)
            refine S_list (T_val (v := (Value.pointer (some ⟨b147_, 3, none⟩))) (by kernel_rfl) ?_)
            refine S_list0 (T_store1 (v := (Value.iface 110 (Value.pointer (some ⟨b174_, 0, none⟩)))) rfl rfl z20 rfl H176_ 1 rfl (Nat.le_of_ble_eq_true (by rfl)) ?_)
            intro w179_ S181_ H180_
            replace H180_ : Holds w179_ (cl b174_ 112 [(Value.int .i64 c.n)] :: cl b147_ 106 [(Value.int .i32 r10_), (Value.int .i32 r18_), (Value.slice (some ⟨b139_, 0, none⟩) c.key.size cp140_), (Value.iface 110 (Value.pointer (some ⟨b174_, 0, none⟩))), (Value.slice a130_ m131_ c132_)] :: sl 5 1 (Value.slice (some ⟨b139_, 0, none⟩) c.key.size cp140_) c.key.size (bytesV (ints c.key)) :: ro R :: cl b2_ 31 [(Value.int .i64 c.T), (Value.int .i64 c.r), (Value.string c.key), (Value.string c.en), (Value.int .i64 c.n), (Value.string c.val), (Value.bool c.bare)] :: F) := H180_
            have S182_ := Same.trans S178_ S181_
            refine wpList_nil ?_
            refine (X_blkN (X_then (hK157_ _ _ ?_)))
            clear hK157_
            refine C_seq (fun K183_ hK183_ => ?_)
            refine C_reg ?_
            refine S_list (T_val (v := (Value.pointer (some ⟨b147_, 0, none⟩))) (x_move rfl) ?_)
            refine S_list (T_val (v := (Value.pointer (some ⟨b147_, 0, none⟩))) (x_assign rfl) ?_)
            refine wpList_nil ?_
            refine (X_then (hK183_ _ _ ?_))
            clear hK183_
            refine C_ret ?_
            refine R_any (v := (Value.pointer (some ⟨b147_, 0, none⟩))) (run_results1 rfl rfl) ?_
            have H184_ : Holds w179_ (ro R :: F) := (Holds.erase (Holds.erase (Holds.erase (Holds.erase (Holds.bring H180_ 3 rfl) 1) 1) 1) 1)
            exact ⟨_, [], rfl, ⟨⟨_, rfl⟩, rfl⟩, S182_, H184_⟩
          · have c173_fp : ¬ (c.T = 1) := of_decide_eq_false c173_f
            refine C_seq (fun K185_ hK185_ => ?_)
            refine C_reg ?_
            refine S_list (T_val (v := (Value.bool (decide (c.T = 2)))) (x_bin rfl rfl rfl) ?_)
            refine S_list (T_val (v := (Value.bool (decide (c.T = 2)))) (x_assign rfl) ?_)
            refine wpList_nil ?_
            refine (X_then (hK185_ _ _ ?_))
            clear hK185_
            refine C_cond (b := decide (c.T = 2)) rfl (fun c186_t => ?_) (fun c186_f => ?_)
            · have c186_tp : c.T = 2 := of_decide_eq_true c186_t
              refine C_reg ?_
              refine S_list (T_val (v := (Value.pointer (some ⟨b147_, 0, none⟩))) (x_move rfl) ?_)
              refine S_list (T_val (v := (Value.pointer (some ⟨b2_, 4, none⟩))) (by kernel_rfl) ?_)
              refine S_list (T_val (v := (Value.int .i64 c.n)) (x_load1 rfl Try.underlying2 rfl ((Holds.rd H149_ 3 rfl) 4 (Value.int .i64 c.n) rfl)) ?_)
              refine S_list (T_val (v := (Value.agg #[(Value.int .i64 c.n)])) (by kernel_rfl) ?_)
              refine S_list (T_box (v := (Value.agg #[(Value.int .i64 c.n)])) rfl H149_ ?_)
              intro b187_ w188_ S190_ H189_
              replace H189_ : Holds w188_ (cl b187_ 115 [(Value.int .i64 c.n)] :: cl b147_ 106 [(Value.int .i32 r10_), (Value.int .i32 r18_), (Value.slice (some ⟨b139_, 0, none⟩) c.key.size cp140_), (Value.nilIface), (Value.slice a130_ m131_ c132_)] :: sl 5 1 (Value.slice (some ⟨b139_, 0, none⟩) c.key.size cp140_) c.key.size (bytesV (ints c.key)) :: ro R :: cl b2_ 31 [(Value.int .i64 c.T), (Value.int .i64 c.r), (Value.string c.key), (Value.string c.en), (Value.int .i64 c.n), (Value.string c.val), (Value.bool c.bare)] :: F) := H189_
              have S191_ := Same.trans S151_ S190_
              refine S_list (T_val (v := (Value.iface 113 (Value.pointer (some ⟨b187_, 0, none⟩)))) (by kernel_rfl) ?_)
              refine S_list (T_val (v := (Value.pointer (some ⟨b147_, 0, none⟩))) (by kernel_rfl) ?_)
              refine S_list (T_val (v := (Value.pointer (some ⟨b147_, 3, none⟩))) (by kernel_rfl) ?_)
              refine S_list0 (T_store1 (v := (Value.iface 113 (Value.pointer (some ⟨b187_, 0, none⟩)))) rfl rfl z20 rfl H189_ 1 rfl (Nat.le_of_ble_eq_true (by rfl)) ?_)
              intro w192_ S194_ H193_
              replace H193_ : Holds w192_ (cl b187_ 115 [(Value.int .i64 c.n)] :: cl b147_ 106 [(Value.int .i32 r10_), (Value.int .i32 r18_), (Value.slice (some ⟨b139_, 0, none⟩) c.key.size cp140_), (Value.iface 113 (Value.pointer (some ⟨b187_, 0, none⟩))), (Value.slice a130_ m131_ c132_)] :: sl 5 1 (Value.slice (some ⟨b139_, 0, none⟩) c.key.size cp140_) c.key.size (bytesV (ints c.key)) :: ro R :: cl b2_ 31 [(Value.int .i64 c.T), (Value.int .i64 c.r), (Value.string c.key), (Value.string c.en), (Value.int .i64 c.n), (Value.string c.val), (Value.bool c.bare)] :: F) := H193_
              have S195_ := Same.trans S191_ S194_
              refine wpList_nil ?_
              refine (X_blkN (X_then (hK157_ _ _ ?_)))
              clear hK157_
              refine C_seq (fun K196_ hK196_ => ?_)
              refine C_reg ?_
              refine S_list (T_val (v := (Value.pointer (some ⟨b147_, 0, none⟩))) (x_move rfl) ?_)
              refine S_list (T_val (v := (Value.pointer (some ⟨b147_, 0, none⟩))) (x_assign rfl) ?_)
              refine wpList_nil ?_
              refine (X_then (hK196_ _ _ ?_))
              clear hK196_
              refine C_ret ?_
              refine R_any (v := (Value.pointer (some ⟨b147_, 0, none⟩))) (run_results1 rfl rfl) ?_
              have H197_ : Holds w192_ (ro R :: F) := (Holds.erase (Holds.erase (Holds.erase (Holds.erase (Holds.bring H193_ 3 rfl) 1) 1) 1) 1)
              exact ⟨_, [], rfl, ⟨⟨_, rfl⟩, rfl⟩, S195_, H197_⟩
            · have c186_fp : ¬ (c.T = 2) := of_decide_eq_false c186_f
              refine C_seq (fun K198_ hK198_ => ?_)
              refine C_reg ?_
              refine S_list (T_val (v := (Value.bool (decide (c.T = 3)))) (x_bin rfl rfl rfl) ?_)
              refine S_list (T_val (v := (Value.bool (decide (c.T = 3)))) (x_assign rfl) ?_)
              refine wpList_nil ?_
              refine (X_then (hK198_ _ _ ?_))
              clear hK198_
              refine C_cond (b := decide (c.T = 3)) rfl (fun c199_t => ?_) (fun c199_f => ?_)
              · have c199_tp : c.T = 3 := of_decide_eq_true c199_t
                refine C_reg ?_
                refine S_list (T_val (v := (Value.pointer (some ⟨b147_, 0, none⟩))) (x_move rfl) ?_)
                refine S_list (T_val (v := (Value.pointer (some ⟨b2_, 5, none⟩))) (by kernel_rfl) ?_)
                refine S_list (T_val (v := (Value.string c.val)) (x_load1 rfl Try.underlying9 rfl ((Holds.rd H149_ 3 rfl) 5 (Value.string c.val) rfl)) ?_)
                refine S_list (T_s2b rfl Try.underlying9 Try.underlying25 Try.underlying5 H149_ ?_)
                intro b200_ cp201_ w202_ S204_ hc205_ H203_
                have S206_ := Same.trans S151_ S204_
                have H207_ : Holds w202_ (sl 5 1 (Value.slice (some ⟨b200_, 0, none⟩) c.val.size cp201_) c.val.size (bytesV (ints c.val)) :: cl b147_ 106 [(Value.int .i32 r10_), (Value.int .i32 r18_), (Value.slice (some ⟨b139_, 0, none⟩) c.key.size cp140_), (Value.nilIface), (Value.slice a130_ m131_ c132_)] :: sl 5 1 (Value.slice (some ⟨b139_, 0, none⟩) c.key.size cp140_) c.key.size (bytesV (ints c.key)) :: ro R :: cl b2_ 31 [(Value.int .i64 c.T), (Value.int .i64 c.r), (Value.string c.key), (Value.string c.en), (Value.int .i64 c.n), (Value.string c.val), (Value.bool c.bare)] :: F) := cast2 (P := fun (c__ : List Value) (k__ : Nat) => Holds w202_ (sl 5 1 (Value.slice (some ⟨b200_, 0, none⟩) c.val.size cp201_) k__ c__ :: cl b147_ 106 [(Value.int .i32 r10_), (Value.int .i32 r18_), (Value.slice (some ⟨b139_, 0, none⟩) c.key.size cp140_), (Value.nilIface), (Value.slice a130_ m131_ c132_)] :: sl 5 1 (Value.slice (some ⟨b139_, 0, none⟩) c.key.size cp140_) c.key.size (bytesV (ints c.key)) :: ro R :: cl b2_ 31 [(Value.int .i64 c.T), (Value.int .i64 c.r), (Value.string c.key), (Value.string c.en), (Value.int .i64 c.n), (Value.string c.val), (Value.bool c.bare)] :: F)) (byteCells_bytesV _ : byteCells c.val = bytesV (ints c.val)) (rfl : c.val.size = c.val.size) H203_
                refine S_list (T_val (v := (Value.agg #[(Value.slice (some ⟨b200_, 0, none⟩) c.val.size cp201_)])) (by kernel_rfl) ?_)
                refine S_list (T_box (v := (Value.agg #[(Value.slice (some ⟨b200_, 0, none⟩) c.val.size cp201_)])) rfl H207_ ?_)
                intro b208_ w209_ S211_ H210_
                replace H210_ : Holds w209_ (cl b208_ 118 [(Value.slice (some ⟨b200_, 0, none⟩) c.val.size cp201_)] :: sl 5 1 (Value.slice (some ⟨b200_, 0, none⟩) c.val.size cp201_) c.val.size (bytesV (ints c.val)) :: cl b147_ 106 [(Value.int .i32 r10_), (Value.int .i32 r18_), (Value.slice (some ⟨b139_, 0, none⟩) c.key.size cp140_), (Value.nilIface), (Value.slice a130_ m131_ c132_)] :: sl 5 1 (Value.slice (some ⟨b139_, 0, none⟩) c.key.size cp140_) c.key.size (bytesV (ints c.key)) :: ro R :: cl b2_ 31 [(Value.int .i64 c.T), (Value.int .i64 c.r), (Value.string c.key), (Value.string c.en), (Value.int .i64 c.n), (Value.string c.val), (Value.bool c.bare)] :: F) := H210_
                have S212_ := Same.trans S206_ S211_
                refine S_list (T_val (v := (Value.iface 116 (Value.pointer (some ⟨b208_, 0, none⟩)))) (by kernel_rfl) ?_)
                refine S_list (T_val (v := (Value.pointer (some ⟨b147_, 0, none⟩))) (by kernel_rfl) ?_)
                refine S_list (T_val (v := (Value.pointer (some ⟨b147_, 3, none⟩))) (by kernel_rfl) ?_)
                refine S_list0 (T_store1 (v := (Value.iface 116 (Value.pointer (some ⟨b208_, 0, none⟩)))) rfl rfl z20 rfl H210_ 2 rfl (Nat.le_of_ble_eq_true (by rfl)) ?_)
                intro w213_ S215_ H214_
                replace H214_ : Holds w213_ (cl b208_ 118 [(Value.slice (some ⟨b200_, 0, none⟩) c.val.size cp201_)] :: sl 5 1 (Value.slice (some ⟨b200_, 0, none⟩) c.val.size cp201_) c.val.size (bytesV (ints c.val)) :: cl b147_ 106 [(Value.int .i32 r10_), (Value.int .i32 r18_), (Value.slice (some ⟨b139_, 0, none⟩) c.key.size cp140_), (Value.iface 116 (Value.pointer (some ⟨b208_, 0, none⟩))), (Value.slice a130_ m131_ c132_)] :: sl 5 1 (Value.slice (some ⟨b139_, 0, none⟩) c.key.size cp140_) c.key.size (bytesV (ints c.key)) :: ro R :: cl b2_ 31 [(Value.int .i64 c.T), (Value.int .i64 c.r), (Value.string c.key), (Value.string c.en), (Value.int .i64 c.n), (Value.string c.val), (Value.bool c.bare)] :: F) := H214_
                have S216_ := Same.trans S212_ S215_
                refine wpList_nil ?_
                refine (X_blkN (X_then (hK157_ _ _ ?_)))
                clear hK157_
                refine C_seq (fun K217_ hK217_ => ?_)
                refine C_reg ?_
                refine S_list (T_val (v := (Value.pointer (some ⟨b147_, 0, none⟩))) (x_move rfl) ?_)
                refine S_list (T_val (v := (Value.pointer (some ⟨b147_, 0, none⟩))) (x_assign rfl) ?_)
                refine wpList_nil ?_
                refine (X_then (hK217_ _ _ ?_))
                clear hK217_
                refine C_ret ?_
                refine R_any (v := (Value.pointer (some ⟨b147_, 0, none⟩))) (run_results1 rfl rfl) ?_
                have H218_ : Holds w213_ (ro R :: F) := (Holds.erase (Holds.erase (Holds.erase (Holds.erase (Holds.erase (Holds.bring H214_ 4 rfl) 1) 1) 1) 1) 1)
                exact ⟨_, [], rfl, ⟨⟨_, rfl⟩, rfl⟩, S216_, H218_⟩
              · have c199_fp : ¬ (c.T = 3) := of_decide_eq_false c199_f
                refine C_seq (fun K219_ hK219_ => ?_)
                refine C_reg ?_
                refine S_list (T_val (v := (Value.bool (decide (c.T = 4)))) (x_bin rfl rfl rfl) ?_)
                refine S_list (T_val (v := (Value.bool (decide (c.T = 4)))) (x_assign rfl) ?_)
                refine wpList_nil ?_
                refine (X_then (hK219_ _ _ ?_))
                clear hK219_
                refine C_cond (b := decide (c.T = 4)) rfl (fun c220_t => ?_) (fun c220_f => ?_)
                · have c220_tp : c.T = 4 := of_decide_eq_true c220_t
                  refine C_reg ?_
                  refine S_list (T_val (v := (Value.pointer (some ⟨b147_, 0, none⟩))) (x_move rfl) ?_)
                  refine S_list (T_val (v := (Value.pointer (some ⟨b2_, 4, none⟩))) (by kernel_rfl) ?_)
                  refine S_list (T_val (v := (Value.int .i64 c.n)) (x_load1 rfl Try.underlying2 rfl ((Holds.rd H149_ 3 rfl) 4 (Value.int .i64 c.n) rfl)) ?_)
                  refine S_list (T_val (v := (Value.agg #[(Value.int .i64 c.n)])) (by kernel_rfl) ?_)
                  refine S_list (T_box (v := (Value.agg #[(Value.int .i64 c.n)])) rfl H149_ ?_)
                  intro b221_ w222_ S224_ H223_
                  replace H223_ : Holds w222_ (cl b221_ 121 [(Value.int .i64 c.n)] :: cl b147_ 106 [(Value.int .i32 r10_), (Value.int .i32 r18_), (Value.slice (some ⟨b139_, 0, none⟩) c.key.size cp140_), (Value.nilIface), (Value.slice a130_ m131_ c132_)] :: sl 5 1 (Value.slice (some ⟨b139_, 0, none⟩) c.key.size cp140_) c.key.size (bytesV (ints c.key)) :: ro R :: cl b2_ 31 [(Value.int .i64 c.T), (Value.int .i64 c.r), (Value.string c.key), (Value.string c.en), (Value.int .i64 c.n), (Value.string c.val), (Value.bool c.bare)] :: F) := H223_
                  have S225_ := Same.trans S151_ S224_
                  refine S_list (T_val (v := (Value.iface 119 (Value.pointer (some ⟨b221_, 0, none⟩)))) (by kernel_rfl) ?_)
                  refine S_list (T_val (v := (Value.pointer (some ⟨b147_, 0, none⟩))) (by kernel_rfl) ?_)
                  refine S_list (T_val (v := (Value.pointer (some ⟨b147_, 3, none⟩))) (by kernel_rfl) ?_)
                  refine S_list0 (T_store1 (v := (Value.iface 119 (Value.pointer (some ⟨b221_, 0, none⟩)))) rfl rfl z20 rfl H223_ 1 rfl (Nat.le_of_ble_eq_true (by rfl)) ?_)
                  intro w226_ S228_ H227_
                  replace H227_ : Holds w226_ (cl b221_ 121 [(Value.int .i64 c.n)] :: cl b147_ 106 [(Value.int .i32 r10_), (Value.int .i32 r18_), (Value.slice (some ⟨b139_, 0, none⟩) c.key.size cp140_), (Value.iface 119 (Value.pointer (some ⟨b221_, 0, none⟩))), (Value.slice a130_ m131_ c132_)] :: sl 5 1 (Value.slice (some ⟨b139_, 0, none⟩) c.key.size cp140_) c.key.size (bytesV (ints c.key)) :: ro R :: cl b2_ 31 [(Value.int .i64 c.T), (Value.int .i64 c.r), (Value.string c.key), (Value.string c.en), (Value.int .i64 c.n), (Value.string c.val), (Value.bool c.bare)] :: F) := H227_
                  have S229_ := Same.trans S225_ S228_
                  refine wpList_nil ?_
                  refine (X_blkN (X_then (hK157_ _ _ ?_)))
                  clear hK157_
                  refine C_seq (fun K230_ hK230_ => ?_)
                  refine C_reg ?_
                  refine S_list (T_val (v := (Value.pointer (some ⟨b147_, 0, none⟩))) (x_move rfl) ?_)
                  refine S_list (T_val (v := (Value.pointer (some ⟨b147_, 0, none⟩))) (x_assign rfl) ?_)
                  refine wpList_nil ?_
                  refine (X_then (hK230_ _ _ ?_))
                  clear hK230_
                  refine C_ret ?_
                  refine R_any (v := (Value.pointer (some ⟨b147_, 0, none⟩))) (run_results1 rfl rfl) ?_
                  have H231_ : Holds w226_ (ro R :: F) := (Holds.erase (Holds.erase (Holds.erase (Holds.erase (Holds.bring H227_ 3 rfl) 1) 1) 1) 1)
                  exact ⟨_, [], rfl, ⟨⟨_, rfl⟩, rfl⟩, S229_, H231_⟩
                · have c220_fp : ¬ (c.T = 4) := of_decide_eq_false c220_f
                  refine C_skip (X_blkN (X_then (hK157_ _ _ ?_)))
                  clear hK157_
                  refine C_seq (fun K232_ hK232_ => ?_)
                  refine C_reg ?_
                  refine S_list (T_val (v := (Value.pointer (some ⟨b147_, 0, none⟩))) (x_move rfl) ?_)
                  refine S_list (T_val (v := (Value.pointer (some ⟨b147_, 0, none⟩))) (x_assign rfl) ?_)
                  refine wpList_nil ?_
                  refine (X_then (hK232_ _ _ ?_))
                  clear hK232_
                  refine C_ret ?_
                  refine R_any (v := (Value.pointer (some ⟨b147_, 0, none⟩))) (run_results1 rfl rfl) ?_
                  have H233_ : Holds w148_ (ro R :: F) := (Holds.erase (Holds.erase (Holds.erase (Holds.bring H149_ 2 rfl) 1) 1) 1)
                  exact ⟨_, [], rfl, ⟨⟨_, rfl⟩, rfl⟩, S151_, H233_⟩
    refine AllR.cons ?_ AllR.nil
    refine A_op (ls' := #[true, true, true, true, true, false, true, true, true, true, true, false, false, false, false]) rfl (by kernel_rfl) (T_s2b rfl Try.underlying9 Try.underlying25 Try.underlying5 H13_ ?_)
    intro b234_ cp235_ w236_ S238_ hc239_ H237_
    have S240_ := Same.trans S17_ S238_
    have H241_ : Holds w236_ (sl 5 1 (Value.slice (some ⟨b234_, 0, none⟩) c.key.size cp235_) c.key.size (bytesV (ints c.key)) :: ro R :: cl b2_ 31 [(Value.int .i64 c.T), (Value.int .i64 c.r), (Value.string c.key), (Value.string c.en), (Value.int .i64 c.n), (Value.string c.val), (Value.bool c.bare)] :: F) := cast2 (P := fun (c__ : List Value) (k__ : Nat) => Holds w236_ (sl 5 1 (Value.slice (some ⟨b234_, 0, none⟩) c.key.size cp235_) k__ c__ :: ro R :: cl b2_ 31 [(Value.int .i64 c.T), (Value.int .i64 c.r), (Value.string c.key), (Value.string c.en), (Value.int .i64 c.n), (Value.string c.val), (Value.bool c.bare)] :: F)) (byteCells_bytesV _ : byteCells c.key = bytesV (ints c.key)) (rfl : c.key.size = c.key.size) H237_
    refine ⟨⟨Holds.rd H241_ 2 rfl, Holds.ro_at H241_ 1 rfl⟩, ?_⟩
    refine A_ready (i := 5) (rs := []) (by kernel_rfl) ?_
    refine AllR.cons ?_ AllR.nil
    have H243_ : Holds w236_ (ro R :: sl 5 1 (Value.slice (some ⟨b234_, 0, none⟩) c.key.size cp235_) c.key.size (bytesV (ints c.key)) :: cl b2_ 31 [(Value.int .i64 c.T), (Value.int .i64 c.r), (Value.string c.key), (Value.string c.en), (Value.int .i64 c.n), (Value.string c.val), (Value.bool c.bare)] :: F) := (Holds.bring H241_ 1 rfl)
    refine A_op (ls' := #[true, true, true, true, true, true, true, true, true, true, true, false, false, false, false]) rfl (by kernel_rfl) (T_call (al := [(Value.int .i64 c.T)]) (pre := []) (F := sl 5 1 (Value.slice (some ⟨b234_, 0, none⟩) c.key.size cp235_) c.key.size (bytesV (ints c.key)) :: cl b2_ 31 [(Value.int .i64 c.T), (Value.int .i64 c.r), (Value.string c.key), (Value.string c.en), (Value.int .i64 c.n), (Value.string c.val), (Value.bool c.bare)] :: F) rfl rfl cb61 (kOrder R c.T) H243_ ?_)
    rintro v247_ p248_ w244_ ⟨⟨r242_, rfl⟩, rfl⟩ S246_ H245_
    replace H245_ : Holds w244_ (ro R :: sl 5 1 (Value.slice (some ⟨b234_, 0, none⟩) c.key.size cp235_) c.key.size (bytesV (ints c.key)) :: cl b2_ 31 [(Value.int .i64 c.T), (Value.int .i64 c.r), (Value.string c.key), (Value.string c.en), (Value.int .i64 c.n), (Value.string c.val), (Value.bool c.bare)] :: F) := H245_
    have S249_ := Same.trans S240_ S246_
    refine ⟨⟨Holds.rd H245_ 2 rfl, Holds.ro_at H245_ 0 rfl⟩, ?_⟩
    refine A_ready (i := 11) (rs := []) (by kernel_rfl) ?_
    refine AllR.cons ?_ AllR.nil
    refine A_op (ls' := #[true, true, true, true, true, true, true, true, true, true, true, true, false, false, false]) rfl (by kernel_rfl) (T_call (al := [(Value.string c.en)]) (pre := []) (F := sl 5 1 (Value.slice (some ⟨b234_, 0, none⟩) c.key.size cp235_) c.key.size (bytesV (ints c.key)) :: cl b2_ 31 [(Value.int .i64 c.T), (Value.int .i64 c.r), (Value.string c.key), (Value.string c.en), (Value.int .i64 c.n), (Value.string c.val), (Value.bool c.bare)] :: F) rfl rfl cb62 (kBytesOf R c.en) H245_ ?_)
    rintro v256_ p257_ w253_ ⟨⟨a250_, m251_, c252_, rfl⟩, rfl⟩ S255_ H254_
    replace H254_ : Holds w253_ (ro R :: sl 5 1 (Value.slice (some ⟨b234_, 0, none⟩) c.key.size cp235_) c.key.size (bytesV (ints c.key)) :: cl b2_ 31 [(Value.int .i64 c.T), (Value.int .i64 c.r), (Value.string c.key), (Value.string c.en), (Value.int .i64 c.n), (Value.string c.val), (Value.bool c.bare)] :: F) := H254_
    have S258_ := Same.trans S249_ S255_
    refine ⟨⟨Holds.rd H254_ 2 rfl, Holds.ro_at H254_ 0 rfl⟩, ?_⟩
    refine A_take 12 (ls' := #[true, true, true, true, true, true, true, true, true, true, true, true, true, false, false]) (v := (Value.agg #[(Value.int .i32 r10_), (Value.int .i32 r242_), (Value.slice (some ⟨b234_, 0, none⟩) c.key.size cp235_), (Value.nilIface), (Value.slice a250_ m251_ c252_)])) rfl (by kernel_rfl) (by kernel_rfl) (by kernel_rfl) (by kernel_rfl) (fun _ _ _ h => h) (fun w hS => by kernel_rfl) ⟨Holds.rd H254_ 2 rfl, Holds.ro_at H254_ 0 rfl⟩ ?_
    refine A_ready (i := 13) (rs := []) (by kernel_rfl) ?_
    refine AllR.cons ?_ AllR.nil
    refine A_op (ls' := #[true, true, true, true, true, true, true, true, true, true, true, true, true, true, false]) rfl (by kernel_rfl) (T_box (v := (Value.agg #[(Value.int .i32 r10_), (Value.int .i32 r242_), (Value.slice (some ⟨b234_, 0, none⟩) c.key.size cp235_), (Value.nilIface), (Value.slice a250_ m251_ c252_)])) rfl H254_ ?_)
    intro b259_ w260_ S262_ H261_
    replace H261_ : Holds w260_ (cl b259_ 106 [(Value.int .i32 r10_), (Value.int .i32 r242_), (Value.slice (some ⟨b234_, 0, none⟩) c.key.size cp235_), (Value.nilIface), (Value.slice a250_ m251_ c252_)] :: ro R :: sl 5 1 (Value.slice (some ⟨b234_, 0, none⟩) c.key.size cp235_) c.key.size (bytesV (ints c.key)) :: cl b2_ 31 [(Value.int .i64 c.T), (Value.int .i64 c.r), (Value.string c.key), (Value.string c.en), (Value.int .i64 c.n), (Value.string c.val), (Value.bool c.bare)] :: F) := H261_
    have S263_ := Same.trans S258_ S262_
    refine ⟨⟨Holds.rd H261_ 3 rfl, Holds.ro_at H261_ 1 rfl⟩, ?_⟩
    refine A_take 14 (ls' := #[true, true, true, true, true, true, true, true, true, true, true, true, true, true, true]) (v := (Value.pointer (some ⟨b259_, 0, none⟩))) rfl (by kernel_rfl) (by kernel_rfl) (by kernel_rfl) (by kernel_rfl) (fun _ _ _ h => h) (fun w hS => x_assign rfl) ⟨Holds.rd H261_ 3 rfl, Holds.ro_at H261_ 1 rfl⟩ ?_
    refine A_done (by kernel_rfl) ?_
    refine (X_then (hK7_ _ _ ?_))
    clear hK7_
    refine C_seq (fun K264_ hK264_ => ?_)
    refine C_seq (fun K265_ hK265_ => ?_)
    refine C_reg ?_
    refine S_list (T_val (v := (Value.pointer (some ⟨b2_, 6, none⟩))) (by kernel_rfl) ?_)
    refine S_list (T_val (v := (Value.bool c.bare)) (x_load1 rfl Try.underlying4 rfl ((Holds.rd H261_ 3 rfl) 6 (Value.bool c.bare) rfl)) ?_)
    refine wpList_nil ?_
    refine (X_then (hK265_ _ _ ?_))
    clear hK265_
    refine C_cond (b := c.bare) rfl (fun c266_t => ?_) (fun c266_f => ?_)
    · skip
      refine C_seq (fun K267_ hK267_ => ?_)
      refine C_reg ?_
      refine S_list (T_val (v := (Value.pointer (some ⟨b259_, 0, none⟩))) (x_move rfl) ?_)
      refine S_list (T_val (v := (Value.pointer (some ⟨b259_, 0, none⟩))) (x_assign rfl) ?_)
      refine wpList_nil ?_
      refine (X_then (hK267_ _ _ ?_))
      clear hK267_
      refine C_ret (X_thenR ?_)
      refine R_any (v := (Value.pointer (some ⟨b259_, 0, none⟩))) (run_results1 rfl rfl) ?_
      have H268_ : Holds w260_ (ro R :: F) := (Holds.erase (Holds.erase (Holds.erase (Holds.bring H261_ 1 rfl) 1) 1) 1)
      exact ⟨_, [], rfl, ⟨⟨_, rfl⟩, rfl⟩, S263_, H268_⟩
    · skip
      refine C_skip (X_then (hK264_ _ _ ?_))
      clear hK264_
      refine C_seq (fun K269_ hK269_ => ?_)
      refine C_seq (fun K270_ hK270_ => ?_)
      refine C_reg ?_
      refine S_list (T_val (v := (Value.pointer (some ⟨b2_, 0, none⟩))) (by kernel_rfl) ?_)
      refine S_list (T_val (v := (Value.int .i64 c.T)) (x_load1 rfl Try.underlying3 rfl ((Holds.rd H261_ 3 rfl) 0 (Value.int .i64 c.T) rfl)) ?_)
      refine wpList_nil ?_
      refine (X_then (hK270_ _ _ ?_))
      clear hK270_
      refine C_block ?_
      refine C_seq (fun K271_ hK271_ => ?_)
      refine C_reg ?_
      refine S_list (T_val (v := (Value.bool (decide (c.T = 0)))) (x_bin rfl rfl rfl) ?_)
      refine S_list (T_val (v := (Value.bool (decide (c.T = 0)))) (x_assign rfl) ?_)
      refine wpList_nil ?_
      refine (X_then (hK271_ _ _ ?_))
      clear hK271_
      refine C_cond (b := decide (c.T = 0)) rfl (fun c272_t => ?_) (fun c272_f => ?_)
      · have c272_tp : c.T = 0 := of_decide_eq_true c272_t
        refine C_reg ?_
        refine S_list (T_val (v := (Value.pointer (some ⟨b259_, 0, none⟩))) (x_move rfl) ?_)
        refine S_list (T_val (v := (Value.pointer (some ⟨b2_, 4, none⟩))) (by kernel_rfl) ?_)
        refine S_list (T_val (v := (Value.int .i64 c.n)) (x_load1 rfl Try.underlying2 rfl ((Holds.rd H261_ 3 rfl) 4 (Value.int .i64 c.n) rfl)) ?_)
        refine S_list (T_val (v := (Value.agg #[(Value.int .i64 c.n)])) (by kernel_rfl) ?_)
        refine S_list (T_box (v := (Value.agg #[(Value.int .i64 c.n)])) rfl H261_ ?_)
        intro b273_ w274_ S276_ H275_
        replace H275_ : Holds w274_ (cl b273_ 109 [(Value.int .i64 c.n)] :: cl b259_ 106 [(Value.int .i32 r10_), (Value.int .i32 r242_), (Value.slice (some ⟨b234_, 0, none⟩) c.key.size cp235_), (Value.nilIface), (Value.slice a250_ m251_ c252_)] :: ro R :: sl 5 1 (Value.slice (some ⟨b234_, 0, none⟩) c.key.size cp235_) c.key.size (bytesV (ints c.key)) :: cl b2_ 31 [(Value.int .i64 c.T), (Value.int .i64 c.r), (Value.string c.key), (Value.string c.en), (Value.int .i64 c.n), (Value.string c.val), (Value.bool c.bare)] :: F) := H275_
        have S277_ := Same.trans S263_ S276_
        refine S_list (T_val (v := (Value.iface 107 (Value.pointer (some ⟨b273_, 0, none⟩)))) (by kernel_rfl) ?_)
        refine S_list (T_val (v := (Value.pointer (some ⟨b259_, 0, none⟩))) (by kernel_rfl) ?_)
        refine S_list (T_val (v := (Value.pointer (some ⟨b259_, 3, none⟩))) (by kernel_rfl) ?_)
        refine S_list0 (T_store1 (v := (Value.iface 107 (Value.pointer (some ⟨b273_, 0, none⟩)))) rfl rfl z20 rfl H275_ 1 rfl (Nat.le_of_ble_eq_true (by rfl)) ?_)
        intro w278_ S280_ H279_
        replace H279_ : Holds w278_ (cl b273_ 109 [(Value.int .i64 c.n)] :: cl b259_ 106 [(Value.int .i32 r10_), (Value.int .i32 r242_), (Value.slice (some ⟨b234_, 0, none⟩) c.key.size cp235_), (Value.iface 107 (Value.pointer (some ⟨b273_, 0, none⟩))), (Value.slice a250_ m251_ c252_)] :: ro R :: sl 5 1 (Value.slice (some ⟨b234_, 0, none⟩) c.key.size cp235_) c.key.size (bytesV (ints c.key)) :: cl b2_ 31 [(Value.int .i64 c.T), (Value.int .i64 c.r), (Value.string c.key), (Value.string c.en), (Value.int .i64 c.n), (Value.string c.val), (Value.bool c.bare)] :: F) := H279_
        have S281_ := Same.trans S277_ S280_
        refine wpList_nil ?_
        refine (X_blkN (X_then (hK269_ _ _ ?_)))
        clear hK269_
        refine C_seq (fun K282_ hK282_ => ?_)
        refine C_reg ?_
        refine S_list (T_val (v := (Value.pointer (some ⟨b259_, 0, none⟩))) (x_move rfl) ?_)
        refine S_list (T_val (v := (Value.pointer (some ⟨b259_, 0, none⟩))) (x_assign rfl) ?_)
        refine wpList_nil ?_
        refine (X_then (hK282_ _ _ ?_))
        clear hK282_
        refine C_ret ?_
        refine R_any (v := (Value.pointer (some ⟨b259_, 0, none⟩))) (run_results1 rfl rfl) ?_
        have H283_ : Holds w278_ (ro R :: F) := (Holds.erase (Holds.erase (Holds.erase (Holds.erase (Holds.bring H279_ 2 rfl) 1) 1) 1) 1)
        exact ⟨_, [], rfl, ⟨⟨_, rfl⟩, rfl⟩, S281_, H283_⟩
      · have c272_fp : ¬ (c.T = 0) := of_decide_eq_false c272_f
        refine C_seq (fun K284_ hK284_ => ?_)
        refine C_reg ?_
        refine S_list (T_val (v := (Value.bool (decide (c.T = 1)))) (x_bin rfl rfl rfl) ?_)
        refine S_list (T_val (v := (Value.bool (decide (c.T = 1)))) (x_assign rfl) ?_)
        refine wpList_nil ?_
        refine (X_then (hK284_ _ _ ?_))
        clear hK284_
        refine C_cond (b := decide (c.T = 1)) rfl (fun c285_t => ?_) (fun c285_f => ?_)
        · have c285_tp : c.T = 1 := of_decide_eq_true c285_t
          refine C_reg ?_
          refine S_list (T_val (v := (Value.pointer (some ⟨b259_, 0, none⟩))) (x_move rfl) ?_)
          refine S_list (T_val (v := (Value.pointer (some ⟨b2_, 4, none⟩))) (by kernel_rfl) ?_)
          refine S_list (T_val (v := (Value.int .i64 c.n)) (x_load1 rfl Try.underlying2 rfl ((Holds.rd H261_ 3 rfl) 4 (Value.int .i64 c.n) rfl)) ?_)
          refine S_list (T_val (v := (Value.agg #[(Value.int .i64 c.n)])) (by kernel_rfl) ?_)
          refine S_list (T_box (v := (Value.agg #[(Value.int .i64 c.n)])) rfl H261_ ?_)
          intro b286_ w287_ S289_ H288_
          replace H288_ : Holds w287_ (cl b286_ 112 [(Value.int .i64 c.n)] :: cl b259_ 106 [(Value.int .i32 r10_), (Value.int .i32 r242_), (Value.slice (some ⟨b234_, 0, none⟩) c.key.size cp235_), (Value.nilIface), (Value.slice a250_ m251_ c252_)] :: ro R :: sl 5 1 (Value.slice (some ⟨b234_, 0, none⟩) c.key.size cp235_) c.key.size (bytesV (ints c.key)) :: cl b2_ 31 [(Value.int .i64 c.T), (Value.int .i64 c.r), (Value.string c.key), (Value.string c.en), (Value.int .i64 c.n), (Value.string c.val), (Value.bool c.bare)] :: F) := H288_
          have S290_ := Same.trans S263_ S289_
          refine S_list (T_val (v := (Value.iface 110 (Value.pointer (some ⟨b286_, 0, none⟩)))) (by kernel_rfl) ?_)
          refine S_list (T_val (v := (Value.pointer (some ⟨b259_, 0, none⟩))) (by kernel_rfl) ?_)
          refine S_list (T_val (v := (Value.pointer (some ⟨b259_, 3, none⟩))) (by kernel_rfl) ?_)
          refine S_list0 (T_store1 (v := (Value.iface 110 (Value.pointer (some ⟨b286_, 0, none⟩)))) rfl rfl z20 rfl H288_ 1 rfl (Nat.le_of_ble_eq_true (by rfl)) ?_)
          intro w291_ S293_ H292_
          replace H292_ : Holds w291_ (cl b286_ 112 [(Value.int .i64 c.n)] :: cl b259_ 106 [(Value.int .i32 r10_), (Value.int .i32 r242_), (Value.slice (some ⟨b234_, 0, none⟩) c.key.size cp235_), (Value.iface 110 (Value.pointer (some ⟨b286_, 0, none⟩))), (Value.slice a250_ m251_ c252_)] :: ro R :: sl 5 1 (Value.slice (some ⟨b234_, 0, none⟩) c.key.size cp235_) c.key.size (bytesV (ints c.key)) :: cl b2_ 31 [(Value.int .i64 c.T), (Value.int .i64 c.r), (Value.string c.key), (Value.string c.en), (Value.int .i64 c.n), (Value.string c.val), (Value.bool c.bare)] :: F) := H292_
          have S294_ := Same.trans S290_ S293_
          refine wpList_nil ?_
          refine (X_blkN (X_then (hK269_ _ _ ?_)))
          clear hK269_
          refine C_seq (fun K295_ hK295_ => ?_)
          refine C_reg ?_
          refine S_list (T_val (v := (Value.pointer (some ⟨b259_, 0, none⟩))) (x_move rfl) ?_)
          refine S_list (T_val (v := (Value.pointer (some ⟨b259_, 0, none⟩))) (x_assign rfl) ?_)
          refine wpList_nil ?_
          refine (X_then (hK295_ _ _ ?_))
          clear hK295_
          refine C_ret ?_
          refine R_any (v := (Value.pointer (some ⟨b259_, 0, none⟩))) (run_results1 rfl rfl) ?_
          have H296_ : Holds w291_ (ro R :: F) := (Holds.erase (Holds.erase (Holds.erase (Holds.erase (Holds.bring H292_ 2 rfl) 1) 1) 1) 1)
          exact ⟨_, [], rfl, ⟨⟨_, rfl⟩, rfl⟩, S294_, H296_⟩
        · have c285_fp : ¬ (c.T = 1) := of_decide_eq_false c285_f
          refine C_seq (fun K297_ hK297_ => ?_)
          refine C_reg ?_
          refine S_list (T_val (v := (Value.bool (decide (c.T = 2)))) (x_bin rfl rfl rfl) ?_)
          refine S_list (T_val (v := (Value.bool (decide (c.T = 2)))) (x_assign rfl) ?_)
          refine wpList_nil ?_
          refine (X_then (hK297_ _ _ ?_))
          clear hK297_
          refine C_cond (b := decide (c.T = 2)) rfl (fun c298_t => ?_) (fun c298_f => ?_)
          · have c298_tp : c.T = 2 := of_decide_eq_true c298_t
            refine C_reg ?_
            refine S_list (T_val (v := (Value.pointer (some ⟨b259_, 0, none⟩))) (x_move rfl) ?_)
            refine S_list (T_val (v := (Value.pointer (some ⟨b2_, 4, none⟩))) (by kernel_rfl) ?_)
            refine S_list (T_val (v := (Value.int .i64 c.n)) (x_load1 rfl Try.underlying2 rfl ((Holds.rd H261_ 3 rfl) 4 (Value.int .i64 c.n) rfl)) ?_)
            refine S_list (T_val (v := (Value.agg #[(Value.int .i64 c.n)])) (by kernel_rfl) ?_)
            refine S_list (T_box (v := (Value.agg #[(Value.int .i64 c.n)])) rfl H261_ ?_)
            intro b299_ w300_ S302_ H301_
            replace H301_ : Holds w300_ (cl b299_ 115 [(Value.int .i64 c.n)] :: cl b259_ 106 [(Value.int .i32 r10_), (Value.int .i32 r242_), (Value.slice (some ⟨b234_, 0, none⟩) c.key.size cp235_), (Value.nilIface), (Value.slice a250_ m251_ c252_)] :: ro R :: sl 5 1 (Value.slice (some ⟨b234_, 0, none⟩) c.key.size cp235_) c.key.size (bytesV (ints c.key)) :: cl b2_ 31 [(Value.int .i64 c.T), (Value.int .i64 c.r), (Value.string c.key), (Value.string c.en), (Value.int .i64 c.n), (Value.string c.val), (Value.bool c.bare)] :: F) := H301_
            have S303_ := Same.trans S263_ S302_
            refine S_list (T_val (v := (Value.iface 113 (Value.pointer (some ⟨b299_, 0, none⟩)))) (by kernel_rfl) ?_)
            refine S_list (T_val (v := (Value.pointer (some ⟨b259_, 0, none⟩))) (by kernel_rfl) ?_)
            refine S_list (T_val (v := (Value.pointer (some ⟨b259_, 3, none⟩))) (by kernel_rfl) ?_)
            refine S_list0 (T_store1 (v := (Value.iface 113 (Value.pointer (some ⟨b299_, 0, none⟩)))) rfl rfl z20 rfl H301_ 1 rfl (Nat.le_of_ble_eq_true (by rfl)) ?_)
            intro w304_ S306_ H305_
            replace H305_ : Holds w304_ (cl b299_ 115 [(Value.int .i64 c.n)] :: cl b259_ 106 [(Value.int .i32 r10_), (Value.int .i32 r242_), (Value.slice (some ⟨b234_, 0, none⟩) c.key.size cp235_), (Value.iface 113 (Value.pointer (some ⟨b299_, 0, none⟩))), (Value.slice a250_ m251_ c252_)] :: ro R :: sl 5 1 (Value.slice (some ⟨b234_, 0, none⟩) c.key.size cp235_) c.key.size (bytesV (ints c.key)) :: cl b2_ 31 [(Value.int .i64 c.T), (Value.int .i64 c.r), (Value.string c.key), (Value.string c.en), (Value.int .i64 c.n), (Value.string c.val), (Value.bool c.bare)] :: F) := H305_
            have S307_ := Same.trans S303_ S306_
            refine wpList_nil ?_
            refine (X_blkN (X_then (hK269_ _ _ ?_)))
            clear hK269_
            refine C_seq (fun K308_ hK308_ => ?_)
            refine C_reg ?_
            refine S_list (T_val (v := (Value.pointer (some ⟨b259_, 0, none⟩))) (x_move rfl) ?_)
            refine S_list (T_val (v := (Value.pointer (some ⟨b259_, 0, none⟩))) (x_assign rfl) ?_)
            refine wpList_nil ?_
            refine (X_then (hK308_ _ _ ?_))
            clear hK308_
            refine C_ret ?_
            refine R_any (v := (Value.pointer (some ⟨b259_, 0, none⟩))) (run_results1 rfl rfl) ?_
            have H309_ : Holds w304_ (ro R :: F) := (Holds.erase (Holds.erase (Holds.erase (Holds.erase (Holds.bring H305_ 2 rfl) 1) 1) 1) 1)
            exact ⟨_, [], rfl, ⟨⟨_, rfl⟩, rfl⟩, S307_, H309_⟩
          · have c298_fp : ¬ (c.T = 2) := of_decide_eq_false c298_f
            refine C_seq (fun K310_ hK310_ => ?_)
            refine C_reg ?_
            refine S_list (T_val (v := (Value.bool (decide (c.T = 3)))) (x_bin rfl rfl rfl) ?_)
            refine S_list (T_val (v := (Value.bool (decide (c.T = 3)))) (x_assign rfl) ?_)
            refine wpList_nil ?_
            refine (X_then (hK310_ _ _ ?_))
            clear hK310_
            refine C_cond (b := decide (c.T = 3)) rfl (fun c311_t => ?_) (fun c311_f => ?_)
            · have c311_tp : c.T = 3 := of_decide_eq_true c311_t
              refine C_reg ?_
              refine S_list (T_val (v := (Value.pointer (some ⟨b259_, 0, none⟩))) (x_move rfl) ?_)
              refine S_list (T_val (v := (Value.pointer (some ⟨b2_, 5, none⟩))) (by kernel_rfl) ?_)
              refine S_list (T_val (v := (Value.string c.val)) (x_load1 rfl Try.underlying9 rfl ((Holds.rd H261_ 3 rfl) 5 (Value.string c.val) rfl)) ?_)
              refine S_list (T_s2b rfl Try.underlying9 Try.underlying25 Try.underlying5 H261_ ?_)
              intro b312_ cp313_ w314_ S316_ hc317_ H315_
              have S318_ := Same.trans S263_ S316_
              have H319_ : Holds w314_ (sl 5 1 (Value.slice (some ⟨b312_, 0, none⟩) c.val.size cp313_) c.val.size (bytesV (ints c.val)) :: cl b259_ 106 [(Value.int .i32 r10_), (Value.int .i32 r242_), (Value.slice (some ⟨b234_, 0, none⟩) c.key.size cp235_), (Value.nilIface), (Value.slice a250_ m251_ c252_)] :: ro R :: sl 5 1 (Value.slice (some ⟨b234_, 0, none⟩) c.key.size cp235_) c.key.size (bytesV (ints c.key)) :: cl b2_ 31 [(Value.int .i64 c.T), (Value.int .i64 c.r), (Value.string c.key), (Value.string c.en), (Value.int .i64 c.n), (Value.string c.val), (Value.bool c.bare)] :: F) := cast2 (P := fun (c__ : List Value) (k__ : Nat) => Holds w314_ (sl 5 1 (Value.slice (some ⟨b312_, 0, none⟩) c.val.size cp313_) k__ c__ :: cl b259_ 106 [(Value.int .i32 r10_), (Value.int .i32 r242_), (Value.slice (some ⟨b234_, 0, none⟩) c.key.size cp235_), (Value.nilIface), (Value.slice a250_ m251_ c252_)] :: ro R :: sl 5 1 (Value.slice (some ⟨b234_, 0, none⟩) c.key.size cp235_) c.key.size (bytesV (ints c.key)) :: cl b2_ 31 [(Value.int .i64 c.T), (Value.int .i64 c.r), (Value.string c.key), (Value.string c.en), (Value.int .i64 c.n), (Value.string c.val), (Value.bool c.bare)] :: F)) (byteCells_bytesV _ : byteCells c.val = bytesV (ints c.val)) (rfl : c.val.size = c.val.size) H315_
              refine S_list (T_val (v := (Value.agg #[(Value.slice (some ⟨b312_, 0, none⟩) c.val.size cp313_)])) (by kernel_rfl) ?_)
              refine S_list (T_box (v := (Value.agg #[(Value.slice (some ⟨b312_, 0, none⟩) c.val.size cp313_)])) rfl H319_ ?_)
              intro b320_ w321_ S323_ H322_
              replace H322_ : Holds w321_ (cl b320_ 118 [(Value.slice (some ⟨b312_, 0, none⟩) c.val.size cp313_)] :: sl 5 1 (Value.slice (some ⟨b312_, 0, none⟩) c.val.size cp313_) c.val.size (bytesV (ints c.val)) :: cl b259_ 106 [(Value.int .i32 r10_), (Value.int .i32 r242_), (Value.slice (some ⟨b234_, 0, none⟩) c.key.size cp235_), (Value.nilIface), (Value.slice a250_ m251_ c252_)] :: ro R :: sl 5 1 (Value.slice (some ⟨b234_, 0, none⟩) c.key.size cp235_) c.key.size (bytesV (ints c.key)) :: cl b2_ 31 [(Value.int .i64 c.T), (Value.int .i64 c.r), (Value.string c.key), (Value.string c.en), (Value.int .i64 c.n), (Value.string c.val), (Value.bool c.bare)] :: F) := H322_
              have S324_ := Same.trans S318_ S323_
              refine S_list (T_val (v := (Value.iface 116 (Value.pointer (some ⟨b320_, 0, none⟩)))) (by kernel_rfl) ?_)
              refine S_list (T_val (v := (Value.pointer (some ⟨b259_, 0, none⟩))) (by kernel_rfl) ?_)
              refine S_list (T_val (v := (Value.pointer (some ⟨b259_, 3, none⟩))) (by kernel_rfl) ?_)
              refine S_list0 (T_store1 (v := (Value.iface 116 (Value.pointer (some ⟨b320_, 0, none⟩)))) rfl rfl z20 rfl H322_ 2 rfl (Nat.le_of_ble_eq_true (by rfl)) ?_)
              intro w325_ S327_ H326_
              replace H326_ : Holds w325_ (cl b320_ 118 [(Value.slice (some ⟨b312_, 0, none⟩) c.val.size cp313_)] :: sl 5 1 (Value.slice (some ⟨b312_, 0, none⟩) c.val.size cp313_) c.val.size (bytesV (ints c.val)) :: cl b259_ 106 [(Value.int .i32 r10_), (Value.int .i32 r242_), (Value.slice (some ⟨b234_, 0, none⟩) c.key.size cp235_), (Value.iface 116 (Value.pointer (some ⟨b320_, 0, none⟩))), (Value.slice a250_ m251_ c252_)] :: ro R :: sl 5 1 (Value.slice (some ⟨b234_, 0, none⟩) c.key.size cp235_) c.key.size (bytesV (ints c.key)) :: cl b2_ 31 [(Value.int .i64 c.T), (Value.int .i64 c.r), (Value.string c.key), (Value.string c.en), (Value.int .i64 c.n), (Value.string c.val), (Value.bool c.bare)] :: F) := H326_
              have S328_ := Same.trans S324_ S327_
              refine wpList_nil ?_
              refine (X_blkN (X_then (hK269_ _ _ ?_)))
              clear hK269_
              refine C_seq (fun K329_ hK329_ => ?_)
              refine C_reg ?_
              refine S_list (T_val (v := (Value.pointer (some ⟨b259_, 0, none⟩))) (x_move rfl) ?_)
              refine S_list (T_val (v := (Value.pointer (some ⟨b259_, 0, none⟩))) (x_assign rfl) ?_)
              refine wpList_nil ?_
              refine (X_then (hK329_ _ _ ?_))
              clear hK329_
              refine C_ret ?_
              refine R_any (v := (Value.pointer (some ⟨b259_, 0, none⟩))) (run_results1 rfl rfl) ?_
              have H330_ : Holds w325_ (ro R :: F) := (Holds.erase (Holds.erase (Holds.erase (Holds.erase (Holds.erase (Holds.bring H326_ 3 rfl) 1) 1) 1) 1) 1)
              exact ⟨_, [], rfl, ⟨⟨_, rfl⟩, rfl⟩, S328_, H330_⟩
            · have c311_fp : ¬ (c.T = 3) := of_decide_eq_false c311_f
              refine C_seq (fun K331_ hK331_ => ?_)
              refine C_reg ?_
              refine S_list (T_val (v := (Value.bool (decide (c.T = 4)))) (x_bin rfl rfl rfl) ?_)
              refine S_list (T_val (v := (Value.bool (decide (c.T = 4)))) (x_assign rfl) ?_)
              refine wpList_nil ?_
              refine (X_then (hK331_ _ _ ?_))
              clear hK331_
              refine C_cond (b := decide (c.T = 4)) rfl (fun c332_t => ?_) (fun c332_f => ?_)
              · have c332_tp : c.T = 4 := of_decide_eq_true c332_t
                refine C_reg ?_
                refine S_list (T_val (v := (Value.pointer (some ⟨b259_, 0, none⟩))) (x_move rfl) ?_)
                refine S_list (T_val (v := (Value.pointer (some ⟨b2_, 4, none⟩))) (by kernel_rfl) ?_)
                refine S_list (T_val (v := (Value.int .i64 c.n)) (x_load1 rfl Try.underlying2 rfl ((Holds.rd H261_ 3 rfl) 4 (Value.int .i64 c.n) rfl)) ?_)
                refine S_list (T_val (v := (Value.agg #[(Value.int .i64 c.n)])) (by kernel_rfl) ?_)
                refine S_list (T_box (v := (Value.agg #[(Value.int .i64 c.n)])) rfl H261_ ?_)
                intro b333_ w334_ S336_ H335_
                replace H335_ : Holds w334_ (cl b333_ 121 [(Value.int .i64 c.n)] :: cl b259_ 106 [(Value.int .i32 r10_), (Value.int .i32 r242_), (Value.slice (some ⟨b234_, 0, none⟩) c.key.size cp235_), (Value.nilIface), (Value.slice a250_ m251_ c252_)] :: ro R :: sl 5 1 (Value.slice (some ⟨b234_, 0, none⟩) c.key.size cp235_) c.key.size (bytesV (ints c.key)) :: cl b2_ 31 [(Value.int .i64 c.T), (Value.int .i64 c.r), (Value.string c.key), (Value.string c.en), (Value.int .i64 c.n), (Value.string c.val), (Value.bool c.bare)] :: F) := H335_
                have S337_ := Same.trans S263_ S336_
                refine S_list (T_val (v := (Value.iface 119 (Value.pointer (some ⟨b333_, 0, none⟩)))) (by kernel_rfl) ?_)
                refine S_list (T_val (v := (Value.pointer (some ⟨b259_, 0, none⟩))) (by kernel_rfl) ?_)
                refine S_list (T_val (v := (Value.pointer (some ⟨b259_, 3, none⟩))) (by kernel_rfl) ?_)
                refine S_list0 (T_store1 (v := (Value.iface 119 (Value.pointer (some ⟨b333_, 0, none⟩)))) rfl rfl z20 rfl H335_ 1 rfl (Nat.le_of_ble_eq_true (by rfl)) ?_)
                intro w338_ S340_ H339_
                replace H339_ : Holds w338_ (cl b333_ 121 [(Value.int .i64 c.n)] :: cl b259_ 106 [(Value.int .i32 r10_), (Value.int .i32 r242_), (Value.slice (some ⟨b234_, 0, none⟩) c.key.size cp235_), (Value.iface 119 (Value.pointer (some ⟨b333_, 0, none⟩))), (Value.slice a250_ m251_ c252_)] :: ro R :: sl 5 1 (Value.slice (some ⟨b234_, 0, none⟩) c.key.size cp235_) c.key.size (bytesV (ints c.key)) :: cl b2_ 31 [(Value.int .i64 c.T), (Value.int .i64 c.r), (Value.string c.key), (Value.string c.en), (Value.int .i64 c.n), (Value.string c.val), (Value.bool c.bare)] :: F) := H339_
                have S341_ := Same.trans S337_ S340_
                refine wpList_nil ?_
                refine (X_blkN (X_then (hK269_ _ _ ?_)))
                clear hK269_
                refine C_seq (fun K342_ hK342_ => ?_)
                refine C_reg ?_
                refine S_list (T_val (v := (Value.pointer (some ⟨b259_, 0, none⟩))) (x_move rfl) ?_)
                refine S_list (T_val (v := (Value.pointer (some ⟨b259_, 0, none⟩))) (x_assign rfl) ?_)
                refine wpList_nil ?_
                refine (X_then (hK342_ _ _ ?_))
                clear hK342_
                refine C_ret ?_
                refine R_any (v := (Value.pointer (some ⟨b259_, 0, none⟩))) (run_results1 rfl rfl) ?_
                have H343_ : Holds w338_ (ro R :: F) := (Holds.erase (Holds.erase (Holds.erase (Holds.erase (Holds.bring H339_ 2 rfl) 1) 1) 1) 1)
                exact ⟨_, [], rfl, ⟨⟨_, rfl⟩, rfl⟩, S341_, H343_⟩
              · have c332_fp : ¬ (c.T = 4) := of_decide_eq_false c332_f
                refine C_skip (X_blkN (X_then (hK269_ _ _ ?_)))
                clear hK269_
                refine C_seq (fun K344_ hK344_ => ?_)
                refine C_reg ?_
                refine S_list (T_val (v := (Value.pointer (some ⟨b259_, 0, none⟩))) (x_move rfl) ?_)
                refine S_list (T_val (v := (Value.pointer (some ⟨b259_, 0, none⟩))) (x_assign rfl) ?_)
                refine wpList_nil ?_
                refine (X_then (hK344_ _ _ ?_))
                clear hK344_
                refine C_ret ?_
                refine R_any (v := (Value.pointer (some ⟨b259_, 0, none⟩))) (run_results1 rfl rfl) ?_
                have H345_ : Holds w260_ (ro R :: F) := (Holds.erase (Holds.erase (Holds.erase (Holds.bring H261_ 1 rfl) 1) 1) 1)
                exact ⟨_, [], rfl, ⟨⟨_, rfl⟩, rfl⟩, S263_, H345_⟩
  refine AllR.cons ?_ AllR.nil
  refine A_op (ls' := #[true, true, false, true, true, false, true, true, true, true, true, false, false, false, false]) rfl (by kernel_rfl) (T_s2b rfl Try.underlying9 Try.underlying25 Try.underlying5 H9_ ?_)
  intro b346_ cp347_ w348_ S350_ hc351_ H349_
  have S352_ := Same.trans (Same.trans S6_ (Same.drew _)) S350_
  have H353_ : Holds w348_ (sl 5 1 (Value.slice (some ⟨b346_, 0, none⟩) c.key.size cp347_) c.key.size (bytesV (ints c.key)) :: cl b2_ 31 [(Value.int .i64 c.T), (Value.int .i64 c.r), (Value.string c.key), (Value.string c.en), (Value.int .i64 c.n), (Value.string c.val), (Value.bool c.bare)] :: ro R :: F) := cast2 (P := fun (c__ : List Value) (k__ : Nat) => Holds w348_ (sl 5 1 (Value.slice (some ⟨b346_, 0, none⟩) c.key.size cp347_) k__ c__ :: cl b2_ 31 [(Value.int .i64 c.T), (Value.int .i64 c.r), (Value.string c.key), (Value.string c.en), (Value.int .i64 c.n), (Value.string c.val), (Value.bool c.bare)] :: ro R :: F)) (byteCells_bytesV _ : byteCells c.key = bytesV (ints c.key)) (rfl : c.key.size = c.key.size) H349_
  refine ⟨⟨Holds.rd H353_ 1 rfl, Holds.ro_at H353_ 2 rfl⟩, ?_⟩
  refine A_ready (i := 2) (rs := []) (by kernel_rfl) ?_
  refine AllR.cons ?_ AllR.nil
  have H355_ : Holds w348_ (ro R :: sl 5 1 (Value.slice (some ⟨b346_, 0, none⟩) c.key.size cp347_) c.key.size (bytesV (ints c.key)) :: cl b2_ 31 [(Value.int .i64 c.T), (Value.int .i64 c.r), (Value.string c.key), (Value.string c.en), (Value.int .i64 c.n), (Value.string c.val), (Value.bool c.bare)] :: F) := (Holds.bring H353_ 2 rfl)
  refine A_op (ls' := #[true, true, true, true, true, false, true, true, true, true, true, false, false, false, false]) rfl (by kernel_rfl) (T_call (al := [(Value.int .i64 c.r)]) (pre := []) (F := sl 5 1 (Value.slice (some ⟨b346_, 0, none⟩) c.key.size cp347_) c.key.size (bytesV (ints c.key)) :: cl b2_ 31 [(Value.int .i64 c.T), (Value.int .i64 c.r), (Value.string c.key), (Value.string c.en), (Value.int .i64 c.n), (Value.string c.val), (Value.bool c.bare)] :: F) rfl rfl cb61 (kOrder R c.r) H355_ ?_)
  rintro v359_ p360_ w356_ ⟨⟨r354_, rfl⟩, rfl⟩ S358_ H357_
  replace H357_ : Holds w356_ (ro R :: sl 5 1 (Value.slice (some ⟨b346_, 0, none⟩) c.key.size cp347_) c.key.size (bytesV (ints c.key)) :: cl b2_ 31 [(Value.int .i64 c.T), (Value.int .i64 c.r), (Value.string c.key), (Value.string c.en), (Value.int .i64 c.n), (Value.string c.val), (Value.bool c.bare)] :: F) := H357_
  have S361_ := Same.trans S352_ S358_
  refine ⟨⟨Holds.rd H357_ 2 rfl, Holds.ro_at H357_ 0 rfl⟩, ?_⟩
  refine A_ready (i := 5) (rs := []) (by kernel_rfl) ?_
  refine AllR.cons ?_ AllR.nil
  refine A_op (ls' := #[true, true, true, true, true, true, true, true, true, true, true, false, false, false, false]) rfl (by kernel_rfl) (T_call (al := [(Value.int .i64 c.T)]) (pre := []) (F := sl 5 1 (Value.slice (some ⟨b346_, 0, none⟩) c.key.size cp347_) c.key.size (bytesV (ints c.key)) :: cl b2_ 31 [(Value.int .i64 c.T), (Value.int .i64 c.r), (Value.string c.key), (Value.string c.en), (Value.int .i64 c.n), (Value.string c.val), (Value.bool c.bare)] :: F) rfl rfl cb61 (kOrder R c.T) H357_ ?_)
  rintro v366_ p367_ w363_ ⟨⟨r362_, rfl⟩, rfl⟩ S365_ H364_
  replace H364_ : Holds w363_ (ro R :: sl 5 1 (Value.slice (some ⟨b346_, 0, none⟩) c.key.size cp347_) c.key.size (bytesV (ints c.key)) :: cl b2_ 31 [(Value.int .i64 c.T), (Value.int .i64 c.r), (Value.string c.key), (Value.string c.en), (Value.int .i64 c.n), (Value.string c.val), (Value.bool c.bare)] :: F) := H364_
  have S368_ := Same.trans S361_ S365_
  refine ⟨⟨Holds.rd H364_ 2 rfl, Holds.ro_at H364_ 0 rfl⟩, ?_⟩
  refine A_ready (i := 11) (rs := []) (by kernel_rfl) ?_
  refine AllR.cons ?_ AllR.nil
  refine A_op (ls' := #[true, true, true, true, true, true, true, true, true, true, true, true, false, false, false]) rfl (by kernel_rfl) (T_call (al := [(Value.string c.en)]) (pre := []) (F := sl 5 1 (Value.slice (some ⟨b346_, 0, none⟩) c.key.size cp347_) c.key.size (bytesV (ints c.key)) :: cl b2_ 31 [(Value.int .i64 c.T), (Value.int .i64 c.r), (Value.string c.key), (Value.string c.en), (Value.int .i64 c.n), (Value.string c.val), (Value.bool c.bare)] :: F) rfl rfl cb62 (kBytesOf R c.en) H364_ ?_)
  rintro v375_ p376_ w372_ ⟨⟨a369_, m370_, c371_, rfl⟩, rfl⟩ S374_ H373_
  replace H373_ : Holds w372_ (ro R :: sl 5 1 (Value.slice (some ⟨b346_, 0, none⟩) c.key.size cp347_) c.key.size (bytesV (ints c.key)) :: cl b2_ 31 [(Value.int .i64 c.T), (Value.int .i64 c.r), (Value.string c.key), (Value.string c.en), (Value.int .i64 c.n), (Value.string c.val), (Value.bool c.bare)] :: F) := H373_
  have S377_ := Same.trans S368_ S374_
  refine ⟨⟨Holds.rd H373_ 2 rfl, Holds.ro_at H373_ 0 rfl⟩, ?_⟩
  refine A_take 12 (ls' := #[true, true, true, true, true, true, true, true, true, true, true, true, true, false, false]) (v := (Value.agg #[(Value.int .i32 r354_), (Value.int .i32 r362_), (Value.slice (some ⟨b346_, 0, none⟩) c.key.size cp347_), (Value.nilIface), (Value.slice a369_ m370_ c371_)])) rfl (by kernel_rfl) (by kernel_rfl) (by kernel_rfl) (by kernel_rfl) (fun _ _ _ h => h) (fun w hS => by kernel_rfl) ⟨Holds.rd H373_ 2 rfl, Holds.ro_at H373_ 0 rfl⟩ ?_
  refine A_ready (i := 13) (rs := []) (by kernel_rfl) ?_
  refine AllR.cons ?_ AllR.nil
  refine A_op (ls' := #[true, true, true, true, true, true, true, true, true, true, true, true, true, true, false]) rfl (by kernel_rfl) (T_box (v := (Value.agg #[(Value.int .i32 r354_), (Value.int .i32 r362_), (Value.slice (some ⟨b346_, 0, none⟩) c.key.size cp347_), (Value.nilIface), (Value.slice a369_ m370_ c371_)])) rfl H373_ ?_)
  intro b378_ w379_ S381_ H380_
  replace H380_ : Holds w379_ (cl b378_ 106 [(Value.int .i32 r354_), (Value.int .i32 r362_), (Value.slice (some ⟨b346_, 0, none⟩) c.key.size cp347_), (Value.nilIface), (Value.slice a369_ m370_ c371_)] :: ro R :: sl 5 1 (Value.slice (some ⟨b346_, 0, none⟩) c.key.size cp347_) c.key.size (bytesV (ints c.key)) :: cl b2_ 31 [(Value.int .i64 c.T), (Value.int .i64 c.r), (Value.string c.key), (Value.string c.en), (Value.int .i64 c.n), (Value.string c.val), (Value.bool c.bare)] :: F) := H380_
  have S382_ := Same.trans S377_ S381_
  refine ⟨⟨Holds.rd H380_ 3 rfl, Holds.ro_at H380_ 1 rfl⟩, ?_⟩
  refine A_take 14 (ls' := #[true, true, true, true, true, true, true, true, true, true, true, true, true, true, true]) (v := (Value.pointer (some ⟨b378_, 0, none⟩))) rfl (by kernel_rfl) (by kernel_rfl) (by kernel_rfl) (by kernel_rfl) (fun _ _ _ h => h) (fun w hS => x_assign rfl) ⟨Holds.rd H380_ 3 rfl, Holds.ro_at H380_ 1 rfl⟩ ?_
  refine A_done (by kernel_rfl) ?_
  refine (X_then (hK7_ _ _ ?_))
  clear hK7_
  refine C_seq (fun K383_ hK383_ => ?_)
  refine C_seq (fun K384_ hK384_ => ?_)
  refine C_reg ?_
  refine S_list (T_val (v := (Value.pointer (some ⟨b2_, 6, none⟩))) (by kernel_rfl) ?_)
  refine S_list (T_val (v := (Value.bool c.bare)) (x_load1 rfl Try.underlying4 rfl ((Holds.rd H380_ 3 rfl) 6 (Value.bool c.bare) rfl)) ?_)
  refine wpList_nil ?_
  refine (X_then (hK384_ _ _ ?_))
  clear hK384_
  refine C_cond (b := c.bare) rfl (fun c385_t => ?_) (fun c385_f => ?_)
  · skip
    refine C_seq (fun K386_ hK386_ => ?_)
    refine C_reg ?_
    refine S_list (T_val (v := (Value.pointer (some ⟨b378_, 0, none⟩))) (x_move rfl) ?_)
    refine S_list (T_val (v := (Value.pointer (some ⟨b378_, 0, none⟩))) (x_assign rfl) ?_)
    refine wpList_nil ?_
    refine (X_then (hK386_ _ _ ?_))
    clear hK386_
    refine C_ret (X_thenR ?_)
    refine R_any (v := (Value.pointer (some ⟨b378_, 0, none⟩))) (run_results1 rfl rfl) ?_
    have H387_ : Holds w379_ (ro R :: F) := (Holds.erase (Holds.erase (Holds.erase (Holds.bring H380_ 1 rfl) 1) 1) 1)
    exact ⟨_, [], rfl, ⟨⟨_, rfl⟩, rfl⟩, S382_, H387_⟩
  · skip
    refine C_skip (X_then (hK383_ _ _ ?_))
    clear hK383_
    refine C_seq (fun K388_ hK388_ => ?_)
    refine C_seq (fun K389_ hK389_ => ?_)
    refine C_reg ?_
    refine S_list (T_val (v := (Value.pointer (some ⟨b2_, 0, none⟩))) (by kernel_rfl) ?_)
    refine S_list (T_val (v := (Value.int .i64 c.T)) (x_load1 rfl Try.underlying3 rfl ((Holds.rd H380_ 3 rfl) 0 (Value.int .i64 c.T) rfl)) ?_)
    refine wpList_nil ?_
    refine (X_then (hK389_ _ _ ?_))
    clear hK389_
    refine C_block ?_
    refine C_seq (fun K390_ hK390_ => ?_)
    refine C_reg ?_
    refine S_list (T_val (v := (Value.bool (decide (c.T = 0)))) (x_bin rfl rfl rfl) ?_)
    refine S_list (T_val (v := (Value.bool (decide (c.T = 0)))) (x_assign rfl) ?_)
    refine wpList_nil ?_
    refine (X_then (hK390_ _ _ ?_))
    clear hK390_
    refine C_cond (b := decide (c.T = 0)) rfl (fun c391_t => ?_) (fun c391_f => ?_)
    · have c391_tp : c.T = 0 := of_decide_eq_true c391_t
      refine C_reg ?_
      refine S_list (T_val (v := (Value.pointer (some ⟨b378_, 0, none⟩))) (x_move rfl) ?_)
      refine S_list (T_val (v := (Value.pointer (some ⟨b2_, 4, none⟩))) (by kernel_rfl) ?_)
      refine S_list (T_val (v := (Value.int .i64 c.n)) (x_load1 rfl Try.underlying2 rfl ((Holds.rd H380_ 3 rfl) 4 (Value.int .i64 c.n) rfl)) ?_)
      refine S_list (T_val (v := (Value.agg #[(Value.int .i64 c.n)])) (by kernel_rfl) ?_)
      refine S_list (T_box (v := (Value.agg #[(Value.int .i64 c.n)])) rfl H380_ ?_)
      intro b392_ w393_ S395_ H394_
      replace H394_ : Holds w393_ (cl b392_ 109 [(Value.int .i64 c.n)] :: cl b378_ 106 [(Value.int .i32 r354_), (Value.int .i32 r362_), (Value.slice (some ⟨b346_, 0, none⟩) c.key.size cp347_), (Value.nilIface), (Value.slice a369_ m370_ c371_)] :: ro R :: sl 5 1 (Value.slice (some ⟨b346_, 0, none⟩) c.key.size cp347_) c.key.size (bytesV (ints c.key)) :: cl b2_ 31 [(Value.int .i64 c.T), (Value.int .i64 c.r), (Value.string c.key), (Value.string c.en), (Value.int .i64 c.n), (Value.string c.val), (Value.bool c.bare)] :: F) := H394_
      have S396_ := Same.trans S382_ S395_
      refine S_list (T_val (v := (Value.iface 107 (Value.pointer (some ⟨b392_, 0, none⟩)))) (by kernel_rfl) ?_)
      refine S_list (T_val (v := (Value.pointer (some ⟨b378_, 0, none⟩))) (by kernel_rfl) ?_)
      refine S_list (T_val (v := (Value.pointer (some ⟨b378_, 3, none⟩))) (by kernel_rfl) ?_)
      refine S_list0 (T_store1 (v := (Value.iface 107 (Value.pointer (some ⟨b392_, 0, none⟩)))) rfl rfl z20 rfl H394_ 1 rfl (Nat.le_of_ble_eq_true (by rfl)) ?_)
      intro w397_ S399_ H398_
      replace H398_ : Holds w397_ (cl b392_ 109 [(Value.int .i64 c.n)] :: cl b378_ 106 [(Value.int .i32 r354_), (Value.int .i32 r362_), (Value.slice (some ⟨b346_, 0, none⟩) c.key.size cp347_), (Value.iface 107 (Value.pointer (some ⟨b392_, 0, none⟩))), (Value.slice a369_ m370_ c371_)] :: ro R :: sl 5 1 (Value.slice (some ⟨b346_, 0, none⟩) c.key.size cp347_) c.key.size (bytesV (ints c.key)) :: cl b2_ 31 [(Value.int .i64 c.T), (Value.int .i64 c.r), (Value.string c.key), (Value.string c.en), (Value.int .i64 c.n), (Value.string c.val), (Value.bool c.bare)] :: F) := H398_
      have S400_ := Same.trans S396_ S399_
      refine wpList_nil ?_
      refine (X_blkN (X_then (hK388_ _ _ ?_)))
      clear hK388_
      refine C_seq (fun K401_ hK401_ => ?_)
      refine C_reg ?_
      refine S_list (T_val (v := (Value.pointer (some ⟨b378_, 0, none⟩))) (x_move rfl) ?_)
      refine S_list (T_val (v := (Value.pointer (some ⟨b378_, 0, none⟩))) (x_assign rfl) ?_)
      refine wpList_nil ?_
      refine (X_then (hK401_ _ _ ?_))
      clear hK401_
      refine C_ret ?_
      refine R_any (v := (Value.pointer (some ⟨b378_, 0, none⟩))) (run_results1 rfl rfl) ?_
      have H402_ : Holds w397_ (ro R :: F) := (Holds.erase (Holds.erase (Holds.erase (Holds.erase (Holds.bring H398_ 2 rfl) 1) 1) 1) 1)
      exact ⟨_, [], rfl, ⟨⟨_, rfl⟩, rfl⟩, S400_, H402_⟩
    · have c391_fp : ¬ (c.T = 0) := of_decide_eq_false c391_f
      refine C_seq (fun K403_ hK403_ => ?_)
      refine C_reg ?_
      refine S_list (T_val (v := (Value.bool (decide (c.T = 1)))) (x_bin rfl rfl rfl) ?_)
      refine S_list (T_val (v := (Value.bool (decide (c.T = 1)))) (x_assign rfl) ?_)
      refine wpList_nil ?_
      refine (X_then (hK403_ _ _ ?_))
      clear hK403_
      refine C_cond (b := decide (c.T = 1)) rfl (fun c404_t => ?_) (fun c404_f => ?_)
      · have c404_tp : c.T = 1 := of_decide_eq_true c404_t
        refine C_reg ?_
        refine S_list (T_val (v := (Value.pointer (some ⟨b378_, 0, none⟩))) (x_move rfl) ?_)
        refine S_list (T_val (v := (Value.pointer (some ⟨b2_, 4, none⟩))) (by kernel_rfl) ?_)
        refine S_list (T_val (v := (Value.int .i64 c.n)) (x_load1 rfl Try.underlying2 rfl ((Holds.rd H380_ 3 rfl) 4 (Value.int .i64 c.n) rfl)) ?_)
        refine S_list (T_val (v := (Value.agg #[(Value.int .i64 c.n)])) (by kernel_rfl) ?_)
        refine S_list (T_box (v := (Value.agg #[(Value.int .i64 c.n)])) rfl H380_ ?_)
        intro b405_ w406_ S408_ H407_
        replace H407_ : Holds w406_ (cl b405_ 112 [(Value.int .i64 c.n)] :: cl b378_ 106 [(Value.int .i32 r354_), (Value.int .i32 r362_), (Value.slice (some ⟨b346_, 0, none⟩) c.key.size cp347_), (Value.nilIface), (Value.slice a369_ m370_ c371_)] :: ro R :: sl 5 1 (Value.slice (some ⟨b346_, 0, none⟩) c.key.size cp347_) c.key.size (bytesV (ints c.key)) :: cl b2_ 31 [(Value.int .i64 c.T), (Value.int .i64 c.r), (Value.string c.key), (Value.string c.en), (Value.int .i64 c.n), (Value.string c.val), (Value.bool c.bare)] :: F) := H407_
        have S409_ := Same.trans S382_ S408_
        refine S_list (T_val (v := (Value.iface 110 (Value.pointer (some ⟨b405_, 0, none⟩)))) (by kernel_rfl) ?_)
        refine S_list (T_val (v := (Value.pointer (some ⟨b378_, 0, none⟩))) (by kernel_rfl) ?_)
        refine S_list (T_val (v := (Value.pointer (some ⟨b378_, 3, none⟩))) (by kernel_rfl) ?_)
        refine S_list0 (T_store1 (v := (Value.iface 110 (Value.pointer (some ⟨b405_, 0, none⟩)))) rfl rfl z20 rfl H407_ 1 rfl (Nat.le_of_ble_eq_true (by rfl)) ?_)
        intro w410_ S412_ H411_
        replace H411_ : Holds w410_ (cl b405_ 112 [(Value.int .i64 c.n)] :: cl b378_ 106 [(Value.int .i32 r354_), (Value.int .i32 r362_), (Value.slice (some ⟨b346_, 0, none⟩) c.key.size cp347_), (Value.iface 110 (Value.pointer (some ⟨b405_, 0, none⟩))), (Value.slice a369_ m370_ c371_)] :: ro R :: sl 5 1 (Value.slice (some ⟨b346_, 0, none⟩) c.key.size cp347_) c.key.size (bytesV (ints c.key)) :: cl b2_ 31 [(Value.int .i64 c.T), (Value.int .i64 c.r), (Value.string c.key), (Value.string c.en), (Value.int .i64 c.n), (Value.string c.val), (Value.bool c.bare)] :: F) := H411_
        have S413_ := Same.trans S409_ S412_
        refine wpList_nil ?_
        refine (X_blkN (X_then (hK388_ _ _ ?_)))
        clear hK388_
        refine C_seq (fun K414_ hK414_ => ?_)
        refine C_reg ?_
        refine S_list (T_val (v := (Value.pointer (some ⟨b378_, 0, none⟩))) (x_move rfl) ?_)
        refine S_list (T_val (v := (Value.pointer (some ⟨b378_, 0, none⟩))) (x_assign rfl) ?_)
        refine wpList_nil ?_
        refine (X_then (hK414_ _ _ ?_))
        clear hK414_
        refine C_ret ?_
        refine R_any (v := (Value.pointer (some ⟨b378_, 0, none⟩))) (run_results1 rfl rfl) ?_
        have H415_ : Holds w410_ (ro R :: F) := (Holds.erase (Holds.erase (Holds.erase (Holds.erase (Holds.bring H411_ 2 rfl) 1) 1) 1) 1)
        exact ⟨_, [], rfl, ⟨⟨_, rfl⟩, rfl⟩, S413_, H415_⟩
      · have c404_fp : ¬ (c.T = 1) := of_decide_eq_false c404_f
        refine C_seq (fun K416_ hK416_ => ?_)
        refine C_reg ?_
        refine S_list (T_val (v := (Value.bool (decide (c.T = 2)))) (x_bin rfl rfl rfl) ?_)
        refine S_list (T_val (v := (Value.bool (decide (c.T = 2)))) (x_assign rfl) ?_)
        refine wpList_nil ?_
        refine (X_then (hK416_ _ _ ?_))
        clear hK416_
        refine C_cond (b := decide (c.T = 2)) rfl (fun c417_t => ?_) (fun c417_f => ?_)
        · have c417_tp : c.T = 2 := of_decide_eq_true c417_t
          refine C_reg ?_
          refine S_list (T_val (v := (Value.pointer (some ⟨b378_, 0, none⟩))) (x_move rfl) ?_)
          refine S_list (T_val (v := (Value.pointer (some ⟨b2_, 4, none⟩))) (by kernel_rfl) ?_)
          refine S_list (T_val (v := (Value.int .i64 c.n)) (x_load1 rfl Try.underlying2 rfl ((Holds.rd H380_ 3 rfl) 4 (Value.int .i64 c.n) rfl)) ?_)
          refine S_list (T_val (v := (Value.agg #[(Value.int .i64 c.n)])) (by kernel_rfl) ?_)
          refine S_list (T_box (v := (Value.agg #[(Value.int .i64 c.n)])) rfl H380_ ?_)
          intro b418_ w419_ S421_ H420_
          replace H420_ : Holds w419_ (cl b418_ 115 [(Value.int .i64 c.n)] :: cl b378_ 106 [(Value.int .i32 r354_), (Value.int .i32 r362_), (Value.slice (some ⟨b346_, 0, none⟩) c.key.size cp347_), (Value.nilIface), (Value.slice a369_ m370_ c371_)] :: ro R :: sl 5 1 (Value.slice (some ⟨b346_, 0, none⟩) c.key.size cp347_) c.key.size (bytesV (ints c.key)) :: cl b2_ 31 [(Value.int .i64 c.T), (Value.int .i64 c.r), (Value.string c.key), (Value.string c.en), (Value.int .i64 c.n), (Value.string c.val), (Value.bool c.bare)] :: F) := H420_
          have S422_ := Same.trans S382_ S421_
          refine S_list (T_val (v := (Value.iface 113 (Value.pointer (some ⟨b418_, 0, none⟩)))) (by kernel_rfl) ?_)
          refine S_list (T_val (v := (Value.pointer (some ⟨b378_, 0, none⟩))) (by kernel_rfl) ?_)
          refine S_list (T_val (v := (Value.pointer (some ⟨b378_, 3, none⟩))) (by kernel_rfl) ?_)
          refine S_list0 (T_store1 (v := (Value.iface 113 (Value.pointer (some ⟨b418_, 0, none⟩)))) rfl rfl z20 rfl H420_ 1 rfl (Nat.le_of_ble_eq_true (by rfl)) ?_)
          intro w423_ S425_ H424_
          replace H424_ : Holds w423_ (cl b418_ 115 [(Value.int .i64 c.n)] :: cl b378_ 106 [(Value.int .i32 r354_), (Value.int .i32 r362_), (Value.slice (some ⟨b346_, 0, none⟩) c.key.size cp347_), (Value.iface 113 (Value.pointer (some ⟨b418_, 0, none⟩))), (Value.slice a369_ m370_ c371_)] :: ro R :: sl 5 1 (Value.slice (some ⟨b346_, 0, none⟩) c.key.size cp347_) c.key.size (bytesV (ints c.key)) :: cl b2_ 31 [(Value.int .i64 c.T), (Value.int .i64 c.r), (Value.string c.key), (Value.string c.en), (Value.int .i64 c.n), (Value.string c.val), (Value.bool c.bare)] :: F) := H424_
          have S426_ := Same.trans S422_ S425_
          refine wpList_nil ?_
          refine (X_blkN (X_then (hK388_ _ _ ?_)))
          clear hK388_
          refine C_seq (fun K427_ hK427_ => ?_)
          refine C_reg ?_
          refine S_list (T_val (v := (Value.pointer (some ⟨b378_, 0, none⟩))) (x_move rfl) ?_)
          refine S_list (T_val (v := (Value.pointer (some ⟨b378_, 0, none⟩))) (x_assign rfl) ?_)
          refine wpList_nil ?_
          refine (X_then (hK427_ _ _ ?_))
          clear hK427_
          refine C_ret ?_
          refine R_any (v := (Value.pointer (some ⟨b378_, 0, none⟩))) (run_results1 rfl rfl) ?_
          have H428_ : Holds w423_ (ro R :: F) := (Holds.erase (Holds.erase (Holds.erase (Holds.erase (Holds.bring H424_ 2 rfl) 1) 1) 1) 1)
          exact ⟨_, [], rfl, ⟨⟨_, rfl⟩, rfl⟩, S426_, H428_⟩
        · have c417_fp : ¬ (c.T = 2) := of_decide_eq_false c417_f
          refine C_seq (fun K429_ hK429_ => ?_)
          refine C_reg ?_
          refine S_list (T_val (v := (Value.bool (decide (c.T = 3)))) (x_bin rfl rfl rfl) ?_)
          refine S_list (T_val (v := (Value.bool (decide (c.T = 3)))) (x_assign rfl) ?_)
          refine wpList_nil ?_
          refine (X_then (hK429_ _ _ ?_))
          clear hK429_
          refine C_cond (b := decide (c.T = 3)) rfl (fun c430_t => ?_) (fun c430_f => ?_)
          · have c430_tp : c.T = 3 := of_decide_eq_true c430_t
            refine C_reg ?_
            refine S_list (T_val (v := (Value.pointer (some ⟨b378_, 0, none⟩))) (x_move rfl) ?_)
            refine S_list (T_val (v := (Value.pointer (some ⟨b2_, 5, none⟩))) (by kernel_rfl) ?_)
            refine S_list (T_val (v := (Value.string c.val)) (x_load1 rfl Try.underlying9 rfl ((Holds.rd H380_ 3 rfl) 5 (Value.string c.val) rfl)) ?_)
            refine S_list (T_s2b rfl Try.underlying9 Try.underlying25 Try.underlying5 H380_ ?_)
            intro b431_ cp432_ w433_ S435_ hc436_ H434_
            have S437_ := Same.trans S382_ S435_
            have H438_ : Holds w433_ (sl 5 1 (Value.slice (some ⟨b431_, 0, none⟩) c.val.size cp432_) c.val.size (bytesV (ints c.val)) :: cl b378_ 106 [(Value.int .i32 r354_), (Value.int .i32 r362_), (Value.slice (some ⟨b346_, 0, none⟩) c.key.size cp347_), (Value.nilIface), (Value.slice a369_ m370_ c371_)] :: ro R :: sl 5 1 (Value.slice (some ⟨b346_, 0, none⟩) c.key.size cp347_) c.key.size (bytesV (ints c.key)) :: cl b2_ 31 [(Value.int .i64 c.T), (Value.int .i64 c.r), (Value.string c.key), (Value.string c.en), (Value.int .i64 c.n), (Value.string c.val), (Value.bool c.bare)] :: F) := cast2 (P := fun (c__ : List Value) (k__ : Nat) => Holds w433_ (sl 5 1 (Value.slice (some ⟨b431_, 0, none⟩) c.val.size cp432_) k__ c__ :: cl b378_ 106 [(Value.int .i32 r354_), (Value.int .i32 r362_), (Value.slice (some ⟨b346_, 0, none⟩) c.key.size cp347_), (Value.nilIface), (Value.slice a369_ m370_ c371_)] :: ro R :: sl 5 1 (Value.slice (some ⟨b346_, 0, none⟩) c.key.size cp347_) c.key.size (bytesV (ints c.key)) :: cl b2_ 31 [(Value.int .i64 c.T), (Value.int .i64 c.r), (Value.string c.key), (Value.string c.en), (Value.int .i64 c.n), (Value.string c.val), (Value.bool c.bare)] :: F)) (byteCells_bytesV _ : byteCells c.val = bytesV (ints c.val)) (rfl : c.val.size = c.val.size) H434_
            refine S_list (T_val (v := (Value.agg #[(Value.slice (some ⟨b431_, 0, none⟩) c.val.size cp432_)])) (by kernel_rfl) ?_)
            refine S_list (T_box (v := (Value.agg #[(Value.slice (some ⟨b431_, 0, none⟩) c.val.size cp432_)])) rfl H438_ ?_)
            intro b439_ w440_ S442_ H441_
            replace H441_ : Holds w440_ (cl b439_ 118 [(Value.slice (some ⟨b431_, 0, none⟩) c.val.size cp432_)] :: sl 5 1 (Value.slice (some ⟨b431_, 0, none⟩) c.val.size cp432_) c.val.size (bytesV (ints c.val)) :: cl b378_ 106 [(Value.int .i32 r354_), (Value.int .i32 r362_), (Value.slice (some ⟨b346_, 0, none⟩) c.key.size cp347_), (Value.nilIface), (Value.slice a369_ m370_ c371_)] :: ro R :: sl 5 1 (Value.slice (some ⟨b346_, 0, none⟩) c.key.size cp347_) c.key.size (bytesV (ints c.key)) :: cl b2_ 31 [(Value.int .i64 c.T), (Value.int .i64 c.r), (Value.string c.key), (Value.string c.en), (Value.int .i64 c.n), (Value.string c.val), (Value.bool c.bare)] :: F) := H441_
            have S443_ := Same.trans S437_ S442_
            refine S_list (T_val (v := (Value.iface 116 (Value.pointer (some ⟨b439_, 0, none⟩)))) (by kernel_rfl) ?_)
            refine S_list (T_val (v := (Value.pointer (some ⟨b378_, 0, none⟩))) (by kernel_rfl) ?_)
            refine S_list (T_val (v := (Value.pointer (some ⟨b378_, 3, none⟩))) (by kernel_rfl) ?_)
            refine S_list0 (T_store1 (v := (Value.iface 116 (Value.pointer (some ⟨b439_, 0, none⟩)))) rfl rfl z20 rfl H441_ 2 rfl (Nat.le_of_ble_eq_true (by rfl)) ?_)
            intro w444_ S446_ H445_
            replace H445_ : Holds w444_ (cl b439_ 118 [(Value.slice (some ⟨b431_, 0, none⟩) c.val.size cp432_)] :: sl 5 1 (Value.slice (some ⟨b431_, 0, none⟩) c.val.size cp432_) c.val.size (bytesV (ints c.val)) :: cl b378_ 106 [(Value.int .i32 r354_), (Value.int .i32 r362_), (Value.slice (some ⟨b346_, 0, none⟩) c.key.size cp347_), (Value.iface 116 (Value.pointer (some ⟨b439_, 0, none⟩))), (Value.slice a369_ m370_ c371_)] :: ro R :: sl 5 1 (Value.slice (some ⟨b346_, 0, none⟩) c.key.size cp347_) c.key.size (bytesV (ints c.key)) :: cl b2_ 31 [(Value.int .i64 c.T), (Value.int .i64 c.r), (Value.string c.key), (Value.string c.en), (Value.int .i64 c.n), (Value.string c.val), (Value.bool c.bare)] :: F) := H445_
            have S447_ := Same.trans S443_ S446_
            refine wpList_nil ?_
            refine (X_blkN (X_then (hK388_ _ _ ?_)))
            clear hK388_
            refine C_seq (fun K448_ hK448_ => ?_)
            refine C_reg ?_
            refine S_list (T_val (v := (Value.pointer (some ⟨b378_, 0, none⟩))) (x_move rfl) ?_)
            refine S_list (T_val (v := (Value.pointer (some ⟨b378_, 0, none⟩))) (x_assign rfl) ?_)
            refine wpList_nil ?_
            refine (X_then (hK448_ _ _ ?_))
            clear hK448_
            refine C_ret ?_
            refine R_any (v := (Value.pointer (some ⟨b378_, 0, none⟩))) (run_results1 rfl rfl) ?_
            have H449_ : Holds w444_ (ro R :: F) := (Holds.erase (Holds.erase (Holds.erase (Holds.erase (Holds.erase (Holds.bring H445_ 3 rfl) 1) 1) 1) 1) 1)
            exact ⟨_, [], rfl, ⟨⟨_, rfl⟩, rfl⟩, S447_, H449_⟩
          · have c430_fp : ¬ (c.T = 3) := of_decide_eq_false c430_f
            refine C_seq (fun K450_ hK450_ => ?_)
            refine C_reg ?_
            refine S_list (T_val (v := (Value.bool (decide (c.T = 4)))) (x_bin rfl rfl rfl) ?_)
            refine S_list (T_val (v := (Value.bool (decide (c.T = 4)))) (x_assign rfl) ?_)
            refine wpList_nil ?_
            refine (X_then (hK450_ _ _ ?_))
            clear hK450_
            refine C_cond (b := decide (c.T = 4)) rfl (fun c451_t => ?_) (fun c451_f => ?_)
            · have c451_tp : c.T = 4 := of_decide_eq_true c451_t
              refine C_reg ?_
              refine S_list (T_val (v := (Value.pointer (some ⟨b378_, 0, none⟩))) (x_move rfl) ?_)
              refine S_list (T_val (v := (Value.pointer (some ⟨b2_, 4, none⟩))) (by kernel_rfl) ?_)
              refine S_list (T_val (v := (Value.int .i64 c.n)) (x_load1 rfl Try.underlying2 rfl ((Holds.rd H380_ 3 rfl) 4 (Value.int .i64 c.n) rfl)) ?_)
              refine S_list (T_val (v := (Value.agg #[(Value.int .i64 c.n)])) (by kernel_rfl) ?_)
              refine S_list (T_box (v := (Value.agg #[(Value.int .i64 c.n)])) rfl H380_ ?_)
              intro b452_ w453_ S455_ H454_
              replace H454_ : Holds w453_ (cl b452_ 121 [(Value.int .i64 c.n)] :: cl b378_ 106 [(Value.int .i32 r354_), (Value.int .i32 r362_), (Value.slice (some ⟨b346_, 0, none⟩) c.key.size cp347_), (Value.nilIface), (Value.slice a369_ m370_ c371_)] :: ro R :: sl 5 1 (Value.slice (some ⟨b346_, 0, none⟩) c.key.size cp347_) c.key.size (bytesV (ints c.key)) :: cl b2_ 31 [(Value.int .i64 c.T), (Value.int .i64 c.r), (Value.string c.key), (Value.string c.en), (Value.int .i64 c.n), (Value.string c.val), (Value.bool c.bare)] :: F) := H454_
              have S456_ := Same.trans S382_ S455_
              refine S_list (T_val (v := (Value.iface 119 (Value.pointer (some ⟨b452_, 0, none⟩)))) (by kernel_rfl) ?_)
              refine S_list (T_val (v := (Value.pointer (some ⟨b378_, 0, none⟩))) (by kernel_rfl) ?_)
              refine S_list (T_val (v := (Value.pointer (some ⟨b378_, 3, none⟩))) (by kernel_rfl) ?_)
              refine S_list0 (T_store1 (v := (Value.iface 119 (Value.pointer (some ⟨b452_, 0, none⟩)))) rfl rfl z20 rfl H454_ 1 rfl (Nat.le_of_ble_eq_true (by rfl)) ?_)
              intro w457_ S459_ H458_
              replace H458_ : Holds w457_ (cl b452_ 121 [(Value.int .i64 c.n)] :: cl b378_ 106 [(Value.int .i32 r354_), (Value.int .i32 r362_), (Value.slice (some ⟨b346_, 0, none⟩) c.key.size cp347_), (Value.iface 119 (Value.pointer (some ⟨b452_, 0, none⟩))), (Value.slice a369_ m370_ c371_)] :: ro R :: sl 5 1 (Value.slice (some ⟨b346_, 0, none⟩) c.key.size cp347_) c.key.size (bytesV (ints c.key)) :: cl b2_ 31 [(Value.int .i64 c.T), (Value.int .i64 c.r), (Value.string c.key), (Value.string c.en), (Value.int .i64 c.n), (Value.string c.val), (Value.bool c.bare)] :: F) := H458_
              have S460_ := Same.trans S456_ S459_
              refine wpList_nil ?_
              refine (X_blkN (X_then (hK388_ _ _ ?_)))
              clear hK388_
              refine C_seq (fun K461_ hK461_ => ?_)
              refine C_reg ?_
              refine S_list (T_val (v := (Value.pointer (some ⟨b378_, 0, none⟩))) (x_move rfl) ?_)
              refine S_list (T_val (v := (Value.pointer (some ⟨b378_, 0, none⟩))) (x_assign rfl) ?_)
              refine wpList_nil ?_
              refine (X_then (hK461_ _ _ ?_))
              clear hK461_
              refine C_ret ?_
              refine R_any (v := (Value.pointer (some ⟨b378_, 0, none⟩))) (run_results1 rfl rfl) ?_
              have H462_ : Holds w457_ (ro R :: F) := (Holds.erase (Holds.erase (Holds.erase (Holds.erase (Holds.bring H458_ 2 rfl) 1) 1) 1) 1)
              exact ⟨_, [], rfl, ⟨⟨_, rfl⟩, rfl⟩, S460_, H462_⟩
            · have c451_fp : ¬ (c.T = 4) := of_decide_eq_false c451_f
              refine C_skip (X_blkN (X_then (hK388_ _ _ ?_)))
              clear hK388_
              refine C_seq (fun K463_ hK463_ => ?_)
              refine C_reg ?_
              refine S_list (T_val (v := (Value.pointer (some ⟨b378_, 0, none⟩))) (x_move rfl) ?_)
              refine S_list (T_val (v := (Value.pointer (some ⟨b378_, 0, none⟩))) (x_assign rfl) ?_)
              refine wpList_nil ?_
              refine (X_then (hK463_ _ _ ?_))
              clear hK463_
              refine C_ret ?_
              refine R_any (v := (Value.pointer (some ⟨b378_, 0, none⟩))) (run_results1 rfl rfl) ?_
              have H464_ : Holds w379_ (ro R :: F) := (Holds.erase (Holds.erase (Holds.erase (Holds.bring H380_ 1 rfl) 1) 1) 1)
              exact ⟨_, [], rfl, ⟨⟨_, rfl⟩, rfl⟩, S382_, H464_⟩

set_option maxHeartbeats 400000 in
theorem kPutIn (R : HP) (q : ReqS) :
    Tri Try.prog 74 #[(Value.agg #[(Value.int .i64 q.kind), (Value.string q.key), (Value.string q.en), (Value.string q.val), (Value.int .i64 q.lease), (Value.int .i64 q.rev), (Value.int .i64 q.limit), (Value.int .i64 q.order), (Value.int .i64 q.target), (Value.int .i64 q.minMod), (Value.int .i64 q.maxMod), (Value.int .i64 q.minCreate), (Value.int .i64 q.maxCreate), (Value.bool q.keysOnly), (Value.bool q.countOnly), (Value.bool q.prev), (Value.bool q.ignValue), (Value.bool q.ignLease), (Value.slice q.cA q.cN q.cC), (Value.slice q.tA q.tN q.tC), (Value.slice q.eA q.eN q.eC)])] R [] (fun v post => (∃ b : Nat, v = .pointer (some ⟨b, 0, none⟩)) ∧ post = []) := by
  refine Tri.into (n := 19) (al := [(Value.agg #[(Value.int .i64 q.kind), (Value.string q.key), (Value.string q.en), (Value.string q.val), (Value.int .i64 q.lease), (Value.int .i64 q.rev), (Value.int .i64 q.limit), (Value.int .i64 q.order), (Value.int .i64 q.target), (Value.int .i64 q.minMod), (Value.int .i64 q.maxMod), (Value.int .i64 q.minCreate), (Value.int .i64 q.maxCreate), (Value.bool q.keysOnly), (Value.bool q.countOnly), (Value.bool q.prev), (Value.bool q.ignValue), (Value.bool q.ignLease), (Value.slice q.cA q.cN q.cC), (Value.slice q.tA q.tN q.tC), (Value.slice q.eA q.eN q.eC)])]) Try.func74 rfl Try.ntmps74 rfl rfl fun w F H => ?_
  replace H : Holds w (ro R :: F) := H
  refine C_seq (fun K1_ hK1_ => ?_)
  refine C_reg ?_
  refine S_list (T_box (v := (Value.agg #[(Value.int .i64 q.kind), (Value.string q.key), (Value.string q.en), (Value.string q.val), (Value.int .i64 q.lease), (Value.int .i64 q.rev), (Value.int .i64 q.limit), (Value.int .i64 q.order), (Value.int .i64 q.target), (Value.int .i64 q.minMod), (Value.int .i64 q.maxMod), (Value.int .i64 q.minCreate), (Value.int .i64 q.maxCreate), (Value.bool q.keysOnly), (Value.bool q.countOnly), (Value.bool q.prev), (Value.bool q.ignValue), (Value.bool q.ignLease), (Value.slice q.cA q.cN q.cC), (Value.slice q.tA q.tN q.tC), (Value.slice q.eA q.eN q.eC)])) rfl H ?_)
  intro b2_ w3_ S5_ H4_
  replace H4_ : Holds w3_ (cl b2_ 40 [(Value.int .i64 q.kind), (Value.string q.key), (Value.string q.en), (Value.string q.val), (Value.int .i64 q.lease), (Value.int .i64 q.rev), (Value.int .i64 q.limit), (Value.int .i64 q.order), (Value.int .i64 q.target), (Value.int .i64 q.minMod), (Value.int .i64 q.maxMod), (Value.int .i64 q.minCreate), (Value.int .i64 q.maxCreate), (Value.bool q.keysOnly), (Value.bool q.countOnly), (Value.bool q.prev), (Value.bool q.ignValue), (Value.bool q.ignLease), (Value.slice q.cA q.cN q.cC), (Value.slice q.tA q.tN q.tC), (Value.slice q.eA q.eN q.eC)] :: ro R :: F) := H4_
  have S6_ := Same.trans (Same.refl w) S5_
  refine S_list (T_val (v := (Value.pointer none)) (x_assign rfl) ?_)
  refine wpList_nil ?_
  refine (X_then (hK1_ _ _ ?_))
  clear hK1_
  refine C_seq (fun K7_ hK7_ => ?_)
  refine C_reg ?_
  refine S_list (T_val (v := (Value.pointer (some ⟨b2_, 1, none⟩))) (by kernel_rfl) ?_)
  refine S_list (T_val (v := (Value.string q.key)) (x_load1 rfl Try.underlying9 rfl ((Holds.rd H4_ 0 rfl) 1 (Value.string q.key) rfl)) ?_)
  refine S_list (T_s2b rfl Try.underlying9 Try.underlying25 Try.underlying5 H4_ ?_)
  intro b8_ cp9_ w10_ S12_ hc13_ H11_
  have S14_ := Same.trans S6_ S12_
  have H15_ : Holds w10_ (sl 5 1 (Value.slice (some ⟨b8_, 0, none⟩) q.key.size cp9_) q.key.size (bytesV (ints q.key)) :: cl b2_ 40 [(Value.int .i64 q.kind), (Value.string q.key), (Value.string q.en), (Value.string q.val), (Value.int .i64 q.lease), (Value.int .i64 q.rev), (Value.int .i64 q.limit), (Value.int .i64 q.order), (Value.int .i64 q.target), (Value.int .i64 q.minMod), (Value.int .i64 q.maxMod), (Value.int .i64 q.minCreate), (Value.int .i64 q.maxCreate), (Value.bool q.keysOnly), (Value.bool q.countOnly), (Value.bool q.prev), (Value.bool q.ignValue), (Value.bool q.ignLease), (Value.slice q.cA q.cN q.cC), (Value.slice q.tA q.tN q.tC), (Value.slice q.eA q.eN q.eC)] :: ro R :: F) := cast2 (P := fun (c__ : List Value) (k__ : Nat) => Holds w10_ (sl 5 1 (Value.slice (some ⟨b8_, 0, none⟩) q.key.size cp9_) k__ c__ :: cl b2_ 40 [(Value.int .i64 q.kind), (Value.string q.key), (Value.string q.en), (Value.string q.val), (Value.int .i64 q.lease), (Value.int .i64 q.rev), (Value.int .i64 q.limit), (Value.int .i64 q.order), (Value.int .i64 q.target), (Value.int .i64 q.minMod), (Value.int .i64 q.maxMod), (Value.int .i64 q.minCreate), (Value.int .i64 q.maxCreate), (Value.bool q.keysOnly), (Value.bool q.countOnly), (Value.bool q.prev), (Value.bool q.ignValue), (Value.bool q.ignLease), (Value.slice q.cA q.cN q.cC), (Value.slice q.tA q.tN q.tC), (Value.slice q.eA q.eN q.eC)] :: ro R :: F)) (byteCells_bytesV _ : byteCells q.key = bytesV (ints q.key)) (rfl : q.key.size = q.key.size) H11_
  refine S_list (T_val (v := (Value.pointer (some ⟨b2_, 3, none⟩))) (by kernel_rfl) ?_)
  refine S_list (T_val (v := (Value.string q.val)) (x_load1 rfl Try.underlying9 rfl ((Holds.rd H15_ 1 rfl) 3 (Value.string q.val) rfl)) ?_)
  refine S_list (T_s2b rfl Try.underlying9 Try.underlying25 Try.underlying5 H15_ ?_)
  intro b16_ cp17_ w18_ S20_ hc21_ H19_
  have S22_ := Same.trans S14_ S20_
  have H23_ : Holds w18_ (sl 5 1 (Value.slice (some ⟨b16_, 0, none⟩) q.val.size cp17_) q.val.size (bytesV (ints q.val)) :: sl 5 1 (Value.slice (some ⟨b8_, 0, none⟩) q.key.size cp9_) q.key.size (bytesV (ints q.key)) :: cl b2_ 40 [(Value.int .i64 q.kind), (Value.string q.key), (Value.string q.en), (Value.string q.val), (Value.int .i64 q.lease), (Value.int .i64 q.rev), (Value.int .i64 q.limit), (Value.int .i64 q.order), (Value.int .i64 q.target), (Value.int .i64 q.minMod), (Value.int .i64 q.maxMod), (Value.int .i64 q.minCreate), (Value.int .i64 q.maxCreate), (Value.bool q.keysOnly), (Value.bool q.countOnly), (Value.bool q.prev), (Value.bool q.ignValue), (Value.bool q.ignLease), (Value.slice q.cA q.cN q.cC), (Value.slice q.tA q.tN q.tC), (Value.slice q.eA q.eN q.eC)] :: ro R :: F) := cast2 (P := fun (c__ : List Value) (k__ : Nat) => Holds w18_ (sl 5 1 (Value.slice (some ⟨b16_, 0, none⟩) q.val.size cp17_) k__ c__ :: sl 5 1 (Value.slice (some ⟨b8_, 0, none⟩) q.key.size cp9_) q.key.size (bytesV (ints q.key)) :: cl b2_ 40 [(Value.int .i64 q.kind), (Value.string q.key), (Value.string q.en), (Value.string q.val), (Value.int .i64 q.lease), (Value.int .i64 q.rev), (Value.int .i64 q.limit), (Value.int .i64 q.order), (Value.int .i64 q.target), (Value.int .i64 q.minMod), (Value.int .i64 q.maxMod), (Value.int .i64 q.minCreate), (Value.int .i64 q.maxCreate), (Value.bool q.keysOnly), (Value.bool q.countOnly), (Value.bool q.prev), (Value.bool q.ignValue), (Value.bool q.ignLease), (Value.slice q.cA q.cN q.cC), (Value.slice q.tA q.tN q.tC), (Value.slice q.eA q.eN q.eC)] :: ro R :: F)) (byteCells_bytesV _ : byteCells q.val = bytesV (ints q.val)) (rfl : q.val.size = q.val.size) H19_
  refine S_list (T_val (v := (Value.pointer (some ⟨b2_, 4, none⟩))) (by kernel_rfl) ?_)
  refine S_list (T_val (v := (Value.int .i64 q.lease)) (x_load1 rfl Try.underlying2 rfl ((Holds.rd H23_ 2 rfl) 4 (Value.int .i64 q.lease) rfl)) ?_)
  refine S_list (T_val (v := (Value.pointer (some ⟨b2_, 15, none⟩))) (by kernel_rfl) ?_)
  refine S_list (T_val (v := (Value.bool q.prev)) (x_load1 rfl Try.underlying4 rfl ((Holds.rd H23_ 2 rfl) 15 (Value.bool q.prev) rfl)) ?_)
  refine S_list (T_val (v := (Value.pointer (some ⟨b2_, 16, none⟩))) (by kernel_rfl) ?_)
  refine S_list (T_val (v := (Value.bool q.ignValue)) (x_load1 rfl Try.underlying4 rfl ((Holds.rd H23_ 2 rfl) 16 (Value.bool q.ignValue) rfl)) ?_)
  refine S_list (T_val (v := (Value.pointer (some ⟨b2_, 17, none⟩))) (by kernel_rfl) ?_)
  refine S_list (T_val (v := (Value.bool q.ignLease)) (x_load1 rfl Try.underlying4 rfl ((Holds.rd H23_ 2 rfl) 17 (Value.bool q.ignLease) rfl)) ?_)
  refine S_list (T_val (v := (Value.agg #[(Value.slice (some ⟨b8_, 0, none⟩) q.key.size cp9_), (Value.slice (some ⟨b16_, 0, none⟩) q.val.size cp17_), (Value.int .i64 q.lease), (Value.bool q.prev), (Value.bool q.ignValue), (Value.bool q.ignLease)])) (by kernel_rfl) ?_)
  refine S_list (T_box (v := (Value.agg #[(Value.slice (some ⟨b8_, 0, none⟩) q.key.size cp9_), (Value.slice (some ⟨b16_, 0, none⟩) q.val.size cp17_), (Value.int .i64 q.lease), (Value.bool q.prev), (Value.bool q.ignValue), (Value.bool q.ignLease)])) rfl H23_ ?_)
  intro b24_ w25_ S27_ H26_
  replace H26_ : Holds w25_ (cl b24_ 173 [(Value.slice (some ⟨b8_, 0, none⟩) q.key.size cp9_), (Value.slice (some ⟨b16_, 0, none⟩) q.val.size cp17_), (Value.int .i64 q.lease), (Value.bool q.prev), (Value.bool q.ignValue), (Value.bool q.ignLease)] :: sl 5 1 (Value.slice (some ⟨b16_, 0, none⟩) q.val.size cp17_) q.val.size (bytesV (ints q.val)) :: sl 5 1 (Value.slice (some ⟨b8_, 0, none⟩) q.key.size cp9_) q.key.size (bytesV (ints q.key)) :: cl b2_ 40 [(Value.int .i64 q.kind), (Value.string q.key), (Value.string q.en), (Value.string q.val), (Value.int .i64 q.lease), (Value.int .i64 q.rev), (Value.int .i64 q.limit), (Value.int .i64 q.order), (Value.int .i64 q.target), (Value.int .i64 q.minMod), (Value.int .i64 q.maxMod), (Value.int .i64 q.minCreate), (Value.int .i64 q.maxCreate), (Value.bool q.keysOnly), (Value.bool q.countOnly), (Value.bool q.prev), (Value.bool q.ignValue), (Value.bool q.ignLease), (Value.slice q.cA q.cN q.cC), (Value.slice q.tA q.tN q.tC), (Value.slice q.eA q.eN q.eC)] :: ro R :: F) := H26_
  have S28_ := Same.trans S22_ S27_
  refine S_list (T_val (v := (Value.pointer (some ⟨b24_, 0, none⟩))) (x_assign rfl) ?_)
  refine wpList_nil ?_
  refine (X_then (hK7_ _ _ ?_))
  clear hK7_
  refine C_ret ?_
  refine R_any (v := (Value.pointer (some ⟨b24_, 0, none⟩))) (run_results1 rfl rfl) ?_
  have H29_ : Holds w25_ (ro R :: F) := (Holds.erase (Holds.erase (Holds.erase (Holds.erase (Holds.bring H26_ 4 rfl) 1) 1) 1) 1)
  exact ⟨_, [], rfl, ⟨⟨_, rfl⟩, rfl⟩, S28_, H29_⟩

set_option maxHeartbeats 400000 in
theorem kDeleteIn (R : HP) (q : ReqS) :
    Tri Try.prog 75 #[(Value.agg #[(Value.int .i64 q.kind), (Value.string q.key), (Value.string q.en), (Value.string q.val), (Value.int .i64 q.lease), (Value.int .i64 q.rev), (Value.int .i64 q.limit), (Value.int .i64 q.order), (Value.int .i64 q.target), (Value.int .i64 q.minMod), (Value.int .i64 q.maxMod), (Value.int .i64 q.minCreate), (Value.int .i64 q.maxCreate), (Value.bool q.keysOnly), (Value.bool q.countOnly), (Value.bool q.prev), (Value.bool q.ignValue), (Value.bool q.ignLease), (Value.slice q.cA q.cN q.cC), (Value.slice q.tA q.tN q.tC), (Value.slice q.eA q.eN q.eC)])] R [] (fun v post => (∃ b : Nat, v = .pointer (some ⟨b, 0, none⟩)) ∧ post = []) := by
  refine Tri.into (n := 13) (al := [(Value.agg #[(Value.int .i64 q.kind), (Value.string q.key), (Value.string q.en), (Value.string q.val), (Value.int .i64 q.lease), (Value.int .i64 q.rev), (Value.int .i64 q.limit), (Value.int .i64 q.order), (Value.int .i64 q.target), (Value.int .i64 q.minMod), (Value.int .i64 q.maxMod), (Value.int .i64 q.minCreate), (Value.int .i64 q.maxCreate), (Value.bool q.keysOnly), (Value.bool q.countOnly), (Value.bool q.prev), (Value.bool q.ignValue), (Value.bool q.ignLease), (Value.slice q.cA q.cN q.cC), (Value.slice q.tA q.tN q.tC), (Value.slice q.eA q.eN q.eC)])]) Try.func75 rfl Try.ntmps75 rfl rfl fun w F H => ?_
  replace H : Holds w (ro R :: F) := H
  refine C_seq (fun K1_ hK1_ => ?_)
  refine C_reg ?_
  refine S_list (T_box (v := (Value.agg #[(Value.int .i64 q.kind), (Value.string q.key), (Value.string q.en), (Value.string q.val), (Value.int .i64 q.lease), (Value.int .i64 q.rev), (Value.int .i64 q.limit), (Value.int .i64 q.order), (Value.int .i64 q.target), (Value.int .i64 q.minMod), (Value.int .i64 q.maxMod), (Value.int .i64 q.minCreate), (Value.int .i64 q.maxCreate), (Value.bool q.keysOnly), (Value.bool q.countOnly), (Value.bool q.prev), (Value.bool q.ignValue), (Value.bool q.ignLease), (Value.slice q.cA q.cN q.cC), (Value.slice q.tA q.tN q.tC), (Value.slice q.eA q.eN q.eC)])) rfl H ?_)
  intro b2_ w3_ S5_ H4_
  replace H4_ : Holds w3_ (cl b2_ 40 [(Value.int .i64 q.kind), (Value.string q.key), (Value.string q.en), (Value.string q.val), (Value.int .i64 q.lease), (Value.int .i64 q.rev), (Value.int .i64 q.limit), (Value.int .i64 q.order), (Value.int .i64 q.target), (Value.int .i64 q.minMod), (Value.int .i64 q.maxMod), (Value.int .i64 q.minCreate), (Value.int .i64 q.maxCreate), (Value.bool q.keysOnly), (Value.bool q.countOnly), (Value.bool q.prev), (Value.bool q.ignValue), (Value.bool q.ignLease), (Value.slice q.cA q.cN q.cC), (Value.slice q.tA q.tN q.tC), (Value.slice q.eA q.eN q.eC)] :: ro R :: F) := H4_
  have S6_ := Same.trans (Same.refl w) S5_
  refine S_list (T_val (v := (Value.pointer none)) (x_assign rfl) ?_)
  refine wpList_nil ?_
  refine (X_then (hK1_ _ _ ?_))
  clear hK1_
  refine C_seq (fun K7_ hK7_ => ?_)
  refine A_start (S := fun w => Rd b2_ [(Value.int .i64 q.kind), (Value.string q.key), (Value.string q.en), (Value.string q.val), (Value.int .i64 q.lease), (Value.int .i64 q.rev), (Value.int .i64 q.limit), (Value.int .i64 q.order), (Value.int .i64 q.target), (Value.int .i64 q.minMod), (Value.int .i64 q.maxMod), (Value.int .i64 q.minCreate), (Value.int .i64 q.maxCreate), (Value.bool q.keysOnly), (Value.bool q.countOnly), (Value.bool q.prev), (Value.bool q.ignValue), (Value.bool q.ignLease), (Value.slice q.cA q.cN q.cC), (Value.slice q.tA q.tN q.tC), (Value.slice q.eA q.eN q.eC)] w ∧ Sub R (hp w)) (N := 11) foll rfl rfl ?_
  have H9_ : Holds w3_.drew (cl b2_ 40 [(Value.int .i64 q.kind), (Value.string q.key), (Value.string q.en), (Value.string q.val), (Value.int .i64 q.lease), (Value.int .i64 q.rev), (Value.int .i64 q.limit), (Value.int .i64 q.order), (Value.int .i64 q.target), (Value.int .i64 q.minMod), (Value.int .i64 q.maxMod), (Value.int .i64 q.minCreate), (Value.int .i64 q.maxCreate), (Value.bool q.keysOnly), (Value.bool q.countOnly), (Value.bool q.prev), (Value.bool q.ignValue), (Value.bool q.ignLease), (Value.slice q.cA q.cN q.cC), (Value.slice q.tA q.tN q.tC), (Value.slice q.eA q.eN q.eC)] :: ro R :: F) := H4_
  refine A_take 0 (ls' := #[true, false, false, false, false, false, false, false, false, false, false]) (v := (Value.pointer (some ⟨b2_, 1, none⟩))) rfl (by kernel_rfl) (by kernel_rfl) (by kernel_rfl) (by kernel_rfl) (fun _ _ _ h => h) (fun w hS => by kernel_rfl) ⟨Holds.rd H9_ 0 rfl, Holds.ro_at H9_ 1 rfl⟩ ?_
  refine A_take 1 (ls' := #[true, true, false, false, false, false, false, false, false, false, false]) (v := (Value.string q.key)) rfl (by kernel_rfl) (by kernel_rfl) (by kernel_rfl) (by kernel_rfl) (fun _ _ _ h => h) (fun w hS => x_load1 rfl Try.underlying9 rfl (hS.1 1 (Value.string q.key) rfl)) ⟨Holds.rd H9_ 0 rfl, Holds.ro_at H9_ 1 rfl⟩ ?_
  refine A_take 3 (ls' := #[true, true, false, true, false, false, false, false, false, false, false]) (v := (Value.pointer (some ⟨b2_, 2, none⟩))) rfl (by kernel_rfl) (by kernel_rfl) (by kernel_rfl) (by kernel_rfl) (fun _ _ _ h => h) (fun w hS => by kernel_rfl) ⟨Holds.rd H9_ 0 rfl, Holds.ro_at H9_ 1 rfl⟩ ?_
  refine A_take 4 (ls' := #[true, true, false, true, true, false, false, false, false, false, false]) (v := (Value.string q.en)) rfl (by kernel_rfl) (by kernel_rfl) (by kernel_rfl) (by kernel_rfl) (fun _ _ _ h => h) (fun w hS => x_load1 rfl Try.underlying9 rfl (hS.1 2 (Value.string q.en) rfl)) ⟨Holds.rd H9_ 0 rfl, Holds.ro_at H9_ 1 rfl⟩ ?_
  refine A_take 6 (ls' := #[true, true, false, true, true, false, true, false, false, false, false]) (v := (Value.pointer (some ⟨b2_, 15, none⟩))) rfl (by kernel_rfl) (by kernel_rfl) (by kernel_rfl) (by kernel_rfl) (fun _ _ _ h => h) (fun w hS => by kernel_rfl) ⟨Holds.rd H9_ 0 rfl, Holds.ro_at H9_ 1 rfl⟩ ?_
  refine A_take 7 (ls' := #[true, true, false, true, true, false, true, true, false, false, false]) (v := (Value.bool q.prev)) rfl (by kernel_rfl) (by kernel_rfl) (by kernel_rfl) (by kernel_rfl) (fun _ _ _ h => h) (fun w hS => x_load1 rfl Try.underlying4 rfl (hS.1 15 (Value.bool q.prev) rfl)) ⟨Holds.rd H9_ 0 rfl, Holds.ro_at H9_ 1 rfl⟩ ?_
  refine A_ready (i := 2) (rs := [5]) (by kernel_rfl) ?_
  refine AllR.cons ?_ ?_
  · skip
    refine A_op (ls' := #[true, true, true, true, true, false, true, true, false, false, false]) rfl (by kernel_rfl) (T_s2b rfl Try.underlying9 Try.underlying25 Try.underlying5 H9_ ?_)
    intro b10_ cp11_ w12_ S14_ hc15_ H13_
    have S16_ := Same.trans (Same.trans S6_ (Same.drew _)) S14_
    have H17_ : Holds w12_ (sl 5 1 (Value.slice (some ⟨b10_, 0, none⟩) q.key.size cp11_) q.key.size (bytesV (ints q.key)) :: cl b2_ 40 [(Value.int .i64 q.kind), (Value.string q.key), (Value.string q.en), (Value.string q.val), (Value.int .i64 q.lease), (Value.int .i64 q.rev), (Value.int .i64 q.limit), (Value.int .i64 q.order), (Value.int .i64 q.target), (Value.int .i64 q.minMod), (Value.int .i64 q.maxMod), (Value.int .i64 q.minCreate), (Value.int .i64 q.maxCreate), (Value.bool q.keysOnly), (Value.bool q.countOnly), (Value.bool q.prev), (Value.bool q.ignValue), (Value.bool q.ignLease), (Value.slice q.cA q.cN q.cC), (Value.slice q.tA q.tN q.tC), (Value.slice q.eA q.eN q.eC)] :: ro R :: F) := cast2 (P := fun (c__ : List Value) (k__ : Nat) => Holds w12_ (sl 5 1 (Value.slice (some ⟨b10_, 0, none⟩) q.key.size cp11_) k__ c__ :: cl b2_ 40 [(Value.int .i64 q.kind), (Value.string q.key), (Value.string q.en), (Value.string q.val), (Value.int .i64 q.lease), (Value.int .i64 q.rev), (Value.int .i64 q.limit), (Value.int .i64 q.order), (Value.int .i64 q.target), (Value.int .i64 q.minMod), (Value.int .i64 q.maxMod), (Value.int .i64 q.minCreate), (Value.int .i64 q.maxCreate), (Value.bool q.keysOnly), (Value.bool q.countOnly), (Value.bool q.prev), (Value.bool q.ignValue), (Value.bool q.ignLease), (Value.slice q.cA q.cN q.cC), (Value.slice q.tA q.tN q.tC), (Value.slice q.eA q.eN q.eC)] :: ro R :: F)) (byteCells_bytesV _ : byteCells q.key = bytesV (ints q.key)) (rfl : q.key.size = q.key.size) H13_
    refine ⟨⟨Holds.rd H17_ 1 rfl, Holds.ro_at H17_ 2 rfl⟩, ?_⟩
    refine A_ready (i := 5) (rs := []) (by kernel_rfl) ?_
    refine AllR.cons ?_ AllR.nil
    have H21_ : Holds w12_ (ro R :: sl 5 1 (Value.slice (some ⟨b10_, 0, none⟩) q.key.size cp11_) q.key.size (bytesV (ints q.key)) :: cl b2_ 40 [(Value.int .i64 q.kind), (Value.string q.key), (Value.string q.en), (Value.string q.val), (Value.int .i64 q.lease), (Value.int .i64 q.rev), (Value.int .i64 q.limit), (Value.int .i64 q.order), (Value.int .i64 q.target), (Value.int .i64 q.minMod), (Value.int .i64 q.maxMod), (Value.int .i64 q.minCreate), (Value.int .i64 q.maxCreate), (Value.bool q.keysOnly), (Value.bool q.countOnly), (Value.bool q.prev), (Value.bool q.ignValue), (Value.bool q.ignLease), (Value.slice q.cA q.cN q.cC), (Value.slice q.tA q.tN q.tC), (Value.slice q.eA q.eN q.eC)] :: F) := (Holds.bring H17_ 2 rfl)
    refine A_op (ls' := #[true, true, true, true, true, true, true, true, false, false, false]) rfl (by kernel_rfl) (T_call (al := [(Value.string q.en)]) (pre := []) (F := sl 5 1 (Value.slice (some ⟨b10_, 0, none⟩) q.key.size cp11_) q.key.size (bytesV (ints q.key)) :: cl b2_ 40 [(Value.int .i64 q.kind), (Value.string q.key), (Value.string q.en), (Value.string q.val), (Value.int .i64 q.lease), (Value.int .i64 q.rev), (Value.int .i64 q.limit), (Value.int .i64 q.order), (Value.int .i64 q.target), (Value.int .i64 q.minMod), (Value.int .i64 q.maxMod), (Value.int .i64 q.minCreate), (Value.int .i64 q.maxCreate), (Value.bool q.keysOnly), (Value.bool q.countOnly), (Value.bool q.prev), (Value.bool q.ignValue), (Value.bool q.ignLease), (Value.slice q.cA q.cN q.cC), (Value.slice q.tA q.tN q.tC), (Value.slice q.eA q.eN q.eC)] :: F) rfl rfl cb62 (kBytesOf R q.en) H21_ ?_)
    rintro v25_ p26_ w22_ ⟨⟨a18_, m19_, c20_, rfl⟩, rfl⟩ S24_ H23_
    replace H23_ : Holds w22_ (ro R :: sl 5 1 (Value.slice (some ⟨b10_, 0, none⟩) q.key.size cp11_) q.key.size (bytesV (ints q.key)) :: cl b2_ 40 [(Value.int .i64 q.kind), (Value.string q.key), (Value.string q.en), (Value.string q.val), (Value.int .i64 q.lease), (Value.int .i64 q.rev), (Value.int .i64 q.limit), (Value.int .i64 q.order), (Value.int .i64 q.target), (Value.int .i64 q.minMod), (Value.int .i64 q.maxMod), (Value.int .i64 q.minCreate), (Value.int .i64 q.maxCreate), (Value.bool q.keysOnly), (Value.bool q.countOnly), (Value.bool q.prev), (Value.bool q.ignValue), (Value.bool q.ignLease), (Value.slice q.cA q.cN q.cC), (Value.slice q.tA q.tN q.tC), (Value.slice q.eA q.eN q.eC)] :: F) := H23_
    have S27_ := Same.trans S16_ S24_
    refine ⟨⟨Holds.rd H23_ 2 rfl, Holds.ro_at H23_ 0 rfl⟩, ?_⟩
    refine A_take 8 (ls' := #[true, true, true, true, true, true, true, true, true, false, false]) (v := (Value.agg #[(Value.slice (some ⟨b10_, 0, none⟩) q.key.size cp11_), (Value.slice a18_ m19_ c20_), (Value.bool q.prev)])) rfl (by kernel_rfl) (by kernel_rfl) (by kernel_rfl) (by kernel_rfl) (fun _ _ _ h => h) (fun w hS => by kernel_rfl) ⟨Holds.rd H23_ 2 rfl, Holds.ro_at H23_ 0 rfl⟩ ?_
    refine A_ready (i := 9) (rs := []) (by kernel_rfl) ?_
    refine AllR.cons ?_ AllR.nil
    refine A_op (ls' := #[true, true, true, true, true, true, true, true, true, true, false]) rfl (by kernel_rfl) (T_box (v := (Value.agg #[(Value.slice (some ⟨b10_, 0, none⟩) q.key.size cp11_), (Value.slice a18_ m19_ c20_), (Value.bool q.prev)])) rfl H23_ ?_)
    intro b28_ w29_ S31_ H30_
    replace H30_ : Holds w29_ (cl b28_ 175 [(Value.slice (some ⟨b10_, 0, none⟩) q.key.size cp11_), (Value.slice a18_ m19_ c20_), (Value.bool q.prev)] :: ro R :: sl 5 1 (Value.slice (some ⟨b10_, 0, none⟩) q.key.size cp11_) q.key.size (bytesV (ints q.key)) :: cl b2_ 40 [(Value.int .i64 q.kind), (Value.string q.key), (Value.string q.en), (Value.string q.val), (Value.int .i64 q.lease), (Value.int .i64 q.rev), (Value.int .i64 q.limit), (Value.int .i64 q.order), (Value.int .i64 q.target), (Value.int .i64 q.minMod), (Value.int .i64 q.maxMod), (Value.int .i64 q.minCreate), (Value.int .i64 q.maxCreate), (Value.bool q.keysOnly), (Value.bool q.countOnly), (Value.bool q.prev), (Value.bool q.ignValue), (Value.bool q.ignLease), (Value.slice q.cA q.cN q.cC), (Value.slice q.tA q.tN q.tC), (Value.slice q.eA q.eN q.eC)] :: F) := H30_
    have S32_ := Same.trans S27_ S31_
    refine ⟨⟨Holds.rd H30_ 3 rfl, Holds.ro_at H30_ 1 rfl⟩, ?_⟩
    refine A_take 10 (ls' := #[true, true, true, true, true, true, true, true, true, true, true]) (v := (Value.pointer (some ⟨b28_, 0, none⟩))) rfl (by kernel_rfl) (by kernel_rfl) (by kernel_rfl) (by kernel_rfl) (fun _ _ _ h => h) (fun w hS => x_assign rfl) ⟨Holds.rd H30_ 3 rfl, Holds.ro_at H30_ 1 rfl⟩ ?_
    refine A_done (by kernel_rfl) ?_
    refine (X_then (hK7_ _ _ ?_))
    clear hK7_
    refine C_ret ?_
    refine R_any (v := (Value.pointer (some ⟨b28_, 0, none⟩))) (run_results1 rfl rfl) ?_
    have H33_ : Holds w29_ (ro R :: F) := (Holds.erase (Holds.erase (Holds.erase (Holds.bring H30_ 1 rfl) 1) 1) 1)
    exact ⟨_, [], rfl, ⟨⟨_, rfl⟩, rfl⟩, S32_, H33_⟩
  refine AllR.cons ?_ AllR.nil
  have H37_ : Holds w3_.drew (ro R :: cl b2_ 40 [(Value.int .i64 q.kind), (Value.string q.key), (Value.string q.en), (Value.string q.val), (Value.int .i64 q.lease), (Value.int .i64 q.rev), (Value.int .i64 q.limit), (Value.int .i64 q.order), (Value.int .i64 q.target), (Value.int .i64 q.minMod), (Value.int .i64 q.maxMod), (Value.int .i64 q.minCreate), (Value.int .i64 q.maxCreate), (Value.bool q.keysOnly), (Value.bool q.countOnly), (Value.bool q.prev), (Value.bool q.ignValue), (Value.bool q.ignLease), (Value.slice q.cA q.cN q.cC), (Value.slice q.tA q.tN q.tC), (Value.slice q.eA q.eN q.eC)] :: F) := (Holds.bring H9_ 1 rfl)
  refine A_op (ls' := #[true, true, false, true, true, true, true, true, false, false, false]) rfl (by kernel_rfl) (T_call (al := [(Value.string q.en)]) (pre := []) (F := cl b2_ 40 [(Value.int .i64 q.kind), (Value.string q.key), (Value.string q.en), (Value.string q.val), (Value.int .i64 q.lease), (Value.int .i64 q.rev), (Value.int .i64 q.limit), (Value.int .i64 q.order), (Value.int .i64 q.target), (Value.int .i64 q.minMod), (Value.int .i64 q.maxMod), (Value.int .i64 q.minCreate), (Value.int .i64 q.maxCreate), (Value.bool q.keysOnly), (Value.bool q.countOnly), (Value.bool q.prev), (Value.bool q.ignValue), (Value.bool q.ignLease), (Value.slice q.cA q.cN q.cC), (Value.slice q.tA q.tN q.tC), (Value.slice q.eA q.eN q.eC)] :: F) rfl rfl cb62 (kBytesOf R q.en) H37_ ?_)
  rintro v41_ p42_ w38_ ⟨⟨a34_, m35_, c36_, rfl⟩, rfl⟩ S40_ H39_
  replace H39_ : Holds w38_ (ro R :: cl b2_ 40 [(Value.int .i64 q.kind), (Value.string q.key), (Value.string q.en), (Value.string q.val), (Value.int .i64 q.lease), (Value.int .i64 q.rev), (Value.int .i64 q.limit), (Value.int .i64 q.order), (Value.int .i64 q.target), (Value.int .i64 q.minMod), (Value.int .i64 q.maxMod), (Value.int .i64 q.minCreate), (Value.int .i64 q.maxCreate), (Value.bool q.keysOnly), (Value.bool q.countOnly), (Value.bool q.prev), (Value.bool q.ignValue), (Value.bool q.ignLease), (Value.slice q.cA q.cN q.cC), (Value.slice q.tA q.tN q.tC), (Value.slice q.eA q.eN q.eC)] :: F) := H39_
  have S43_ := Same.trans (Same.trans S6_ (Same.drew _)) S40_
  refine ⟨⟨Holds.rd H39_ 1 rfl, Holds.ro_at H39_ 0 rfl⟩, ?_⟩
  refine A_ready (i := 2) (rs := []) (by kernel_rfl) ?_
  refine AllR.cons ?_ AllR.nil
  refine A_op (ls' := #[true, true, true, true, true, true, true, true, false, false, false]) rfl (by kernel_rfl) (T_s2b rfl Try.underlying9 Try.underlying25 Try.underlying5 H39_ ?_)
  intro b44_ cp45_ w46_ S48_ hc49_ H47_
  have S50_ := Same.trans S43_ S48_
  have H51_ : Holds w46_ (sl 5 1 (Value.slice (some ⟨b44_, 0, none⟩) q.key.size cp45_) q.key.size (bytesV (ints q.key)) :: ro R :: cl b2_ 40 [(Value.int .i64 q.kind), (Value.string q.key), (Value.string q.en), (Value.string q.val), (Value.int .i64 q.lease), (Value.int .i64 q.rev), (Value.int .i64 q.limit), (Value.int .i64 q.order), (Value.int .i64 q.target), (Value.int .i64 q.minMod), (Value.int .i64 q.maxMod), (Value.int .i64 q.minCreate), (Value.int .i64 q.maxCreate), (Value.bool q.keysOnly), (Value.bool q.countOnly), (Value.bool q.prev), (Value.bool q.ignValue), (Value.bool q.ignLease), (Value.slice q.cA q.cN q.cC), (Value.slice q.tA q.tN q.tC), (Value.slice q.eA q.eN q.eC)] :: F) := cast2 (P := fun (c__ : List Value) (k__ : Nat) => Holds w46_ (sl 5 1 (Value.slice (some ⟨b44_, 0, none⟩) q.key.size cp45_) k__ c__ :: ro R :: cl b2_ 40 [(Value.int .i64 q.kind), (Value.string q.key), (Value.string q.en), (Value.string q.val), (Value.int .i64 q.lease), (Value.int .i64 q.rev), (Value.int .i64 q.limit), (Value.int .i64 q.order), (Value.int .i64 q.target), (Value.int .i64 q.minMod), (Value.int .i64 q.maxMod), (Value.int .i64 q.minCreate), (Value.int .i64 q.maxCreate), (Value.bool q.keysOnly), (Value.bool q.countOnly), (Value.bool q.prev), (Value.bool q.ignValue), (Value.bool q.ignLease), (Value.slice q.cA q.cN q.cC), (Value.slice q.tA q.tN q.tC), (Value.slice q.eA q.eN q.eC)] :: F)) (byteCells_bytesV _ : byteCells q.key = bytesV (ints q.key)) (rfl : q.key.size = q.key.size) H47_
  refine ⟨⟨Holds.rd H51_ 2 rfl, Holds.ro_at H51_ 1 rfl⟩, ?_⟩
  refine A_take 8 (ls' := #[true, true, true, true, true, true, true, true, true, false, false]) (v := (Value.agg #[(Value.slice (some ⟨b44_, 0, none⟩) q.key.size cp45_), (Value.slice a34_ m35_ c36_), (Value.bool q.prev)])) rfl (by kernel_rfl) (by kernel_rfl) (by kernel_rfl) (by kernel_rfl) (fun _ _ _ h => h) (fun w hS => by kernel_rfl) ⟨Holds.rd H51_ 2 rfl, Holds.ro_at H51_ 1 rfl⟩ ?_
  refine A_ready (i := 9) (rs := []) (by kernel_rfl) ?_
  refine AllR.cons ?_ AllR.nil
  refine A_op (ls' := #[true, true, true, true, true, true, true, true, true, true, false]) rfl (by kernel_rfl) (T_box (v := (Value.agg #[(Value.slice (some ⟨b44_, 0, none⟩) q.key.size cp45_), (Value.slice a34_ m35_ c36_), (Value.bool q.prev)])) rfl H51_ ?_)
  intro b52_ w53_ S55_ H54_
  replace H54_ : Holds w53_ (cl b52_ 175 [(Value.slice (some ⟨b44_, 0, none⟩) q.key.size cp45_), (Value.slice a34_ m35_ c36_), (Value.bool q.prev)] :: sl 5 1 (Value.slice (some ⟨b44_, 0, none⟩) q.key.size cp45_) q.key.size (bytesV (ints q.key)) :: ro R :: cl b2_ 40 [(Value.int .i64 q.kind), (Value.string q.key), (Value.string q.en), (Value.string q.val), (Value.int .i64 q.lease), (Value.int .i64 q.rev), (Value.int .i64 q.limit), (Value.int .i64 q.order), (Value.int .i64 q.target), (Value.int .i64 q.minMod), (Value.int .i64 q.maxMod), (Value.int .i64 q.minCreate), (Value.int .i64 q.maxCreate), (Value.bool q.keysOnly), (Value.bool q.countOnly), (Value.bool q.prev), (Value.bool q.ignValue), (Value.bool q.ignLease), (Value.slice q.cA q.cN q.cC), (Value.slice q.tA q.tN q.tC), (Value.slice q.eA q.eN q.eC)] :: F) := H54_
  have S56_ := Same.trans S50_ S55_
  refine ⟨⟨Holds.rd H54_ 3 rfl, Holds.ro_at H54_ 2 rfl⟩, ?_⟩
  refine A_take 10 (ls' := #[true, true, true, true, true, true, true, true, true, true, true]) (v := (Value.pointer (some ⟨b52_, 0, none⟩))) rfl (by kernel_rfl) (by kernel_rfl) (by kernel_rfl) (by kernel_rfl) (fun _ _ _ h => h) (fun w hS => x_assign rfl) ⟨Holds.rd H54_ 3 rfl, Holds.ro_at H54_ 2 rfl⟩ ?_
  refine A_done (by kernel_rfl) ?_
  refine (X_then (hK7_ _ _ ?_))
  clear hK7_
  refine C_ret ?_
  refine R_any (v := (Value.pointer (some ⟨b52_, 0, none⟩))) (run_results1 rfl rfl) ?_
  have H57_ : Holds w53_ (ro R :: F) := (Holds.erase (Holds.erase (Holds.erase (Holds.bring H54_ 2 rfl) 1) 1) 1)
  exact ⟨_, [], rfl, ⟨⟨_, rfl⟩, rfl⟩, S56_, H57_⟩

set_option maxHeartbeats 400000 in
theorem kRangeIn (R : HP) (q : ReqS) :
    Tri Try.prog 73 #[(Value.agg #[(Value.int .i64 q.kind), (Value.string q.key), (Value.string q.en), (Value.string q.val), (Value.int .i64 q.lease), (Value.int .i64 q.rev), (Value.int .i64 q.limit), (Value.int .i64 q.order), (Value.int .i64 q.target), (Value.int .i64 q.minMod), (Value.int .i64 q.maxMod), (Value.int .i64 q.minCreate), (Value.int .i64 q.maxCreate), (Value.bool q.keysOnly), (Value.bool q.countOnly), (Value.bool q.prev), (Value.bool q.ignValue), (Value.bool q.ignLease), (Value.slice q.cA q.cN q.cC), (Value.slice q.tA q.tN q.tC), (Value.slice q.eA q.eN q.eC)])] R [] (fun v post => ∃ (b : Nat) (cs : List Value), v = .pointer (some ⟨b, 0, none⟩) ∧ cs[6]? = some (.bool q.prev) ∧ post = [cl b 135 cs]) := by
  refine Tri.into (n := 35) (al := [(Value.agg #[(Value.int .i64 q.kind), (Value.string q.key), (Value.string q.en), (Value.string q.val), (Value.int .i64 q.lease), (Value.int .i64 q.rev), (Value.int .i64 q.limit), (Value.int .i64 q.order), (Value.int .i64 q.target), (Value.int .i64 q.minMod), (Value.int .i64 q.maxMod), (Value.int .i64 q.minCreate), (Value.int .i64 q.maxCreate), (Value.bool q.keysOnly), (Value.bool q.countOnly), (Value.bool q.prev), (Value.bool q.ignValue), (Value.bool q.ignLease), (Value.slice q.cA q.cN q.cC), (Value.slice q.tA q.tN q.tC), (Value.slice q.eA q.eN q.eC)])]) Try.func73 rfl Try.ntmps73 rfl rfl fun w F H => ?_
  replace H : Holds w (ro R :: F) := H
  refine C_seq (fun K1_ hK1_ => ?_)
  refine C_reg ?_
  refine S_list (T_box (v := (Value.agg #[(Value.int .i64 q.kind), (Value.string q.key), (Value.string q.en), (Value.string q.val), (Value.int .i64 q.lease), (Value.int .i64 q.rev), (Value.int .i64 q.limit), (Value.int .i64 q.order), (Value.int .i64 q.target), (Value.int .i64 q.minMod), (Value.int .i64 q.maxMod), (Value.int .i64 q.minCreate), (Value.int .i64 q.maxCreate), (Value.bool q.keysOnly), (Value.bool q.countOnly), (Value.bool q.prev), (Value.bool q.ignValue), (Value.bool q.ignLease), (Value.slice q.cA q.cN q.cC), (Value.slice q.tA q.tN q.tC), (Value.slice q.eA q.eN q.eC)])) rfl H ?_)
  intro b2_ w3_ S5_ H4_
  replace H4_ : Holds w3_ (cl b2_ 40 [(Value.int .i64 q.kind), (Value.string q.key), (Value.string q.en), (Value.string q.val), (Value.int .i64 q.lease), (Value.int .i64 q.rev), (Value.int .i64 q.limit), (Value.int .i64 q.order), (Value.int .i64 q.target), (Value.int .i64 q.minMod), (Value.int .i64 q.maxMod), (Value.int .i64 q.minCreate), (Value.int .i64 q.maxCreate), (Value.bool q.keysOnly), (Value.bool q.countOnly), (Value.bool q.prev), (Value.bool q.ignValue), (Value.bool q.ignLease), (Value.slice q.cA q.cN q.cC), (Value.slice q.tA q.tN q.tC), (Value.slice q.eA q.eN q.eC)] :: ro R :: F) := H4_
  have S6_ := Same.trans (Same.refl w) S5_
  refine S_list (T_val (v := (Value.pointer none)) (x_assign rfl) ?_)
  refine wpList_nil ?_
  refine (X_then (hK1_ _ _ ?_))
  clear hK1_
  refine C_seq (fun K7_ hK7_ => ?_)
  refine A_start (S := fun w => Rd b2_ [(Value.int .i64 q.kind), (Value.string q.key), (Value.string q.en), (Value.string q.val), (Value.int .i64 q.lease), (Value.int .i64 q.rev), (Value.int .i64 q.limit), (Value.int .i64 q.order), (Value.int .i64 q.target), (Value.int .i64 q.minMod), (Value.int .i64 q.maxMod), (Value.int .i64 q.minCreate), (Value.int .i64 q.maxCreate), (Value.bool q.keysOnly), (Value.bool q.countOnly), (Value.bool q.prev), (Value.bool q.ignValue), (Value.bool q.ignLease), (Value.slice q.cA q.cN q.cC), (Value.slice q.tA q.tN q.tC), (Value.slice q.eA q.eN q.eC)] w ∧ Sub R (hp w)) (N := 33) foll rfl rfl ?_
  have H9_ : Holds w3_.drew (cl b2_ 40 [(Value.int .i64 q.kind), (Value.string q.key), (Value.string q.en), (Value.string q.val), (Value.int .i64 q.lease), (Value.int .i64 q.rev), (Value.int .i64 q.limit), (Value.int .i64 q.order), (Value.int .i64 q.target), (Value.int .i64 q.minMod), (Value.int .i64 q.maxMod), (Value.int .i64 q.minCreate), (Value.int .i64 q.maxCreate), (Value.bool q.keysOnly), (Value.bool q.countOnly), (Value.bool q.prev), (Value.bool q.ignValue), (Value.bool q.ignLease), (Value.slice q.cA q.cN q.cC), (Value.slice q.tA q.tN q.tC), (Value.slice q.eA q.eN q.eC)] :: ro R :: F) := H4_
  refine A_take 0 (ls' := #[true, false, false, false, false, false, false, false, false, false, false, false, false, false, false, false, false, false, false, false, false, false, false, false, false, false, false, false, false, false, false, false, false]) (v := (Value.pointer (some ⟨b2_, 1, none⟩))) rfl (by kernel_rfl) (by kernel_rfl) (by kernel_rfl) (by kernel_rfl) (fun _ _ _ h => h) (fun w hS => by kernel_rfl) ⟨Holds.rd H9_ 0 rfl, Holds.ro_at H9_ 1 rfl⟩ ?_
  refine A_take 1 (ls' := #[true, true, false, false, false, false, false, false, false, false, false, false, false, false, false, false, false, false, false, false, false, false, false, false, false, false, false, false, false, false, false, false, false]) (v := (Value.string q.key)) rfl (by kernel_rfl) (by kernel_rfl) (by kernel_rfl) (by kernel_rfl) (fun _ _ _ h => h) (fun w hS => x_load1 rfl Try.underlying9 rfl (hS.1 1 (Value.string q.key) rfl)) ⟨Holds.rd H9_ 0 rfl, Holds.ro_at H9_ 1 rfl⟩ ?_
  refine A_take 3 (ls' := #[true, true, false, true, false, false, false, false, false, false, false, false, false, false, false, false, false, false, false, false, false, false, false, false, false, false, false, false, false, false, false, false, false]) (v := (Value.pointer (some ⟨b2_, 2, none⟩))) rfl (by kernel_rfl) (by kernel_rfl) (by kernel_rfl) (by kernel_rfl) (fun _ _ _ h => h) (fun w hS => by kernel_rfl) ⟨Holds.rd H9_ 0 rfl, Holds.ro_at H9_ 1 rfl⟩ ?_
  refine A_take 4 (ls' := #[true, true, false, true, true, false, false, false, false, false, false, false, false, false, false, false, false, false, false, false, false, false, false, false, false, false, false, false, false, false, false, false, false]) (v := (Value.string q.en)) rfl (by kernel_rfl) (by kernel_rfl) (by kernel_rfl) (by kernel_rfl) (fun _ _ _ h => h) (fun w hS => x_load1 rfl Try.underlying9 rfl (hS.1 2 (Value.string q.en) rfl)) ⟨Holds.rd H9_ 0 rfl, Holds.ro_at H9_ 1 rfl⟩ ?_
  refine A_take 6 (ls' := #[true, true, false, true, true, false, true, false, false, false, false, false, false, false, false, false, false, false, false, false, false, false, false, false, false, false, false, false, false, false, false, false, false]) (v := (Value.pointer (some ⟨b2_, 6, none⟩))) rfl (by kernel_rfl) (by kernel_rfl) (by kernel_rfl) (by kernel_rfl) (fun _ _ _ h => h) (fun w hS => by kernel_rfl) ⟨Holds.rd H9_ 0 rfl, Holds.ro_at H9_ 1 rfl⟩ ?_
  refine A_take 7 (ls' := #[true, true, false, true, true, false, true, true, false, false, false, false, false, false, false, false, false, false, false, false, false, false, false, false, false, false, false, false, false, false, false, false, false]) (v := (Value.int .i64 q.limit)) rfl (by kernel_rfl) (by kernel_rfl) (by kernel_rfl) (by kernel_rfl) (fun _ _ _ h => h) (fun w hS => x_load1 rfl Try.underlying2 rfl (hS.1 6 (Value.int .i64 q.limit) rfl)) ⟨Holds.rd H9_ 0 rfl, Holds.ro_at H9_ 1 rfl⟩ ?_
  refine A_take 8 (ls' := #[true, true, false, true, true, false, true, true, true, false, false, false, false, false, false, false, false, false, false, false, false, false, false, false, false, false, false, false, false, false, false, false, false]) (v := (Value.pointer (some ⟨b2_, 5, none⟩))) rfl (by kernel_rfl) (by kernel_rfl) (by kernel_rfl) (by kernel_rfl) (fun _ _ _ h => h) (fun w hS => by kernel_rfl) ⟨Holds.rd H9_ 0 rfl, Holds.ro_at H9_ 1 rfl⟩ ?_
  refine A_take 9 (ls' := #[true, true, false, true, true, false, true, true, true, true, false, false, false, false, false, false, false, false, false, false, false, false, false, false, false, false, false, false, false, false, false, false, false]) (v := (Value.int .i64 q.rev)) rfl (by kernel_rfl) (by kernel_rfl) (by kernel_rfl) (by kernel_rfl) (fun _ _ _ h => h) (fun w hS => x_load1 rfl Try.underlying2 rfl (hS.1 5 (Value.int .i64 q.rev) rfl)) ⟨Holds.rd H9_ 0 rfl, Holds.ro_at H9_ 1 rfl⟩ ?_
  refine A_take 10 (ls' := #[true, true, false, true, true, false, true, true, true, true, true, false, false, false, false, false, false, false, false, false, false, false, false, false, false, false, false, false, false, false, false, false, false]) (v := (Value.pointer (some ⟨b2_, 7, none⟩))) rfl (by kernel_rfl) (by kernel_rfl) (by kernel_rfl) (by kernel_rfl) (fun _ _ _ h => h) (fun w hS => by kernel_rfl) ⟨Holds.rd H9_ 0 rfl, Holds.ro_at H9_ 1 rfl⟩ ?_
  refine A_take 11 (ls' := #[true, true, false, true, true, false, true, true, true, true, true, true, false, false, false, false, false, false, false, false, false, false, false, false, false, false, false, false, false, false, false, false, false]) (v := (Value.int .i64 q.order)) rfl (by kernel_rfl) (by kernel_rfl) (by kernel_rfl) (by kernel_rfl) (fun _ _ _ h => h) (fun w hS => x_load1 rfl Try.underlying3 rfl (hS.1 7 (Value.int .i64 q.order) rfl)) ⟨Holds.rd H9_ 0 rfl, Holds.ro_at H9_ 1 rfl⟩ ?_
  refine A_take 13 (ls' := #[true, true, false, true, true, false, true, true, true, true, true, true, false, true, false, false, false, false, false, false, false, false, false, false, false, false, false, false, false, false, false, false, false]) (v := (Value.pointer (some ⟨b2_, 8, none⟩))) rfl (by kernel_rfl) (by kernel_rfl) (by kernel_rfl) (by kernel_rfl) (fun _ _ _ h => h) (fun w hS => by kernel_rfl) ⟨Holds.rd H9_ 0 rfl, Holds.ro_at H9_ 1 rfl⟩ ?_
  refine A_take 14 (ls' := #[true, true, false, true, true, false, true, true, true, true, true, true, false, true, true, false, false, false, false, false, false, false, false, false, false, false, false, false, false, false, false, false, false]) (v := (Value.int .i64 q.target)) rfl (by kernel_rfl) (by kernel_rfl) (by kernel_rfl) (by kernel_rfl) (fun _ _ _ h => h) (fun w hS => x_load1 rfl Try.underlying3 rfl (hS.1 8 (Value.int .i64 q.target) rfl)) ⟨Holds.rd H9_ 0 rfl, Holds.ro_at H9_ 1 rfl⟩ ?_
  refine A_take 16 (ls' := #[true, true, false, true, true, false, true, true, true, true, true, true, false, true, true, false, true, false, false, false, false, false, false, false, false, false, false, false, false, false, false, false, false]) (v := (Value.pointer (some ⟨b2_, 15, none⟩))) rfl (by kernel_rfl) (by kernel_rfl) (by kernel_rfl) (by kernel_rfl) (fun _ _ _ h => h) (fun w hS => by kernel_rfl) ⟨Holds.rd H9_ 0 rfl, Holds.ro_at H9_ 1 rfl⟩ ?_
  refine A_take 17 (ls' := #[true, true, false, true, true, false, true, true, true, true, true, true, false, true, true, false, true, true, false, false, false, false, false, false, false, false, false, false, false, false, false, false, false]) (v := (Value.bool q.prev)) rfl (by kernel_rfl) (by kernel_rfl) (by kernel_rfl) (by kernel_rfl) (fun _ _ _ h => h) (fun w hS => x_load1 rfl Try.underlying4 rfl (hS.1 15 (Value.bool q.prev) rfl)) ⟨Holds.rd H9_ 0 rfl, Holds.ro_at H9_ 1 rfl⟩ ?_
  refine A_take 18 (ls' := #[true, true, false, true, true, false, true, true, true, true, true, true, false, true, true, false, true, true, true, false, false, false, false, false, false, false, false, false, false, false, false, false, false]) (v := (Value.pointer (some ⟨b2_, 13, none⟩))) rfl (by kernel_rfl) (by kernel_rfl) (by kernel_rfl) (by kernel_rfl) (fun _ _ _ h => h) (fun w hS => by kernel_rfl) ⟨Holds.rd H9_ 0 rfl, Holds.ro_at H9_ 1 rfl⟩ ?_
  refine A_take 19 (ls' := #[true, true, false, true, true, false, true, true, true, true, true, true, false, true, true, false, true, true, true, true, false, false, false, false, false, false, false, false, false, false, false, false, false]) (v := (Value.bool q.keysOnly)) rfl (by kernel_rfl) (by kernel_rfl) (by kernel_rfl) (by kernel_rfl) (fun _ _ _ h => h) (fun w hS => x_load1 rfl Try.underlying4 rfl (hS.1 13 (Value.bool q.keysOnly) rfl)) ⟨Holds.rd H9_ 0 rfl, Holds.ro_at H9_ 1 rfl⟩ ?_
  refine A_take 20 (ls' := #[true, true, false, true, true, false, true, true, true, true, true, true, false, true, true, false, true, true, true, true, true, false, false, false, false, false, false, false, false, false, false, false, false]) (v := (Value.pointer (some ⟨b2_, 14, none⟩))) rfl (by kernel_rfl) (by kernel_rfl) (by kernel_rfl) (by kernel_rfl) (fun _ _ _ h => h) (fun w hS => by kernel_rfl) ⟨Holds.rd H9_ 0 rfl, Holds.ro_at H9_ 1 rfl⟩ ?_
  refine A_take 21 (ls' := #[true, true, false, true, true, false, true, true, true, true, true, true, false, true, true, false, true, true, true, true, true, true, false, false, false, false, false, false, false, false, false, false, false]) (v := (Value.bool q.countOnly)) rfl (by kernel_rfl) (by kernel_rfl) (by kernel_rfl) (by kernel_rfl) (fun _ _ _ h => h) (fun w hS => x_load1 rfl Try.underlying4 rfl (hS.1 14 (Value.bool q.countOnly) rfl)) ⟨Holds.rd H9_ 0 rfl, Holds.ro_at H9_ 1 rfl⟩ ?_
  refine A_take 22 (ls' := #[true, true, false, true, true, false, true, true, true, true, true, true, false, true, true, false, true, true, true, true, true, true, true, false, false, false, false, false, false, false, false, false, false]) (v := (Value.pointer (some ⟨b2_, 9, none⟩))) rfl (by kernel_rfl) (by kernel_rfl) (by kernel_rfl) (by kernel_rfl) (fun _ _ _ h => h) (fun w hS => by kernel_rfl) ⟨Holds.rd H9_ 0 rfl, Holds.ro_at H9_ 1 rfl⟩ ?_
  refine A_take 23 (ls' := #[true, true, false, true, true, false, true, true, true, true, true, true, false, true, true, false, true, true, true, true, true, true, true, true, false, false, false, false, false, false, false, false, false]) (v := (Value.int .i64 q.minMod)) rfl (by kernel_rfl) (by kernel_rfl) (by kernel_rfl) (by kernel_rfl) (fun _ _ _ h => h) (fun w hS => x_load1 rfl Try.underlying2 rfl (hS.1 9 (Value.int .i64 q.minMod) rfl)) ⟨Holds.rd H9_ 0 rfl, Holds.ro_at H9_ 1 rfl⟩ ?_
  refine A_take 24 (ls' := #[true, true, false, true, true, false, true, true, true, true, true, true, false, true, true, false, true, true, true, true, true, true, true, true, true, false, false, false, false, false, false, false, false]) (v := (Value.pointer (some ⟨b2_, 10, none⟩))) rfl (by kernel_rfl) (by kernel_rfl) (by kernel_rfl) (by kernel_rfl) (fun _ _ _ h => h) (fun w hS => by kernel_rfl) ⟨Holds.rd H9_ 0 rfl, Holds.ro_at H9_ 1 rfl⟩ ?_
  refine A_take 25 (ls' := #[true, true, false, true, true, false, true, true, true, true, true, true, false, true, true, false, true, true, true, true, true, true, true, true, true, true, false, false, false, false, false, false, false]) (v := (Value.int .i64 q.maxMod)) rfl (by kernel_rfl) (by kernel_rfl) (by kernel_rfl) (by kernel_rfl) (fun _ _ _ h => h) (fun w hS => x_load1 rfl Try.underlying2 rfl (hS.1 10 (Value.int .i64 q.maxMod) rfl)) ⟨Holds.rd H9_ 0 rfl, Holds.ro_at H9_ 1 rfl⟩ ?_
  refine A_take 26 (ls' := #[true, true, false, true, true, false, true, true, true, true, true, true, false, true, true, false, true, true, true, true, true, true, true, true, true, true, true, false, false, false, false, false, false]) (v := (Value.pointer (some ⟨b2_, 11, none⟩))) rfl (by kernel_rfl) (by kernel_rfl) (by kernel_rfl) (by kernel_rfl) (fun _ _ _ h => h) (fun w hS => by kernel_rfl) ⟨Holds.rd H9_ 0 rfl, Holds.ro_at H9_ 1 rfl⟩ ?_
  refine A_take 27 (ls' := #[true, true, false, true, true, false, true, true, true, true, true, true, false, true, true, false, true, true, true, true, true, true, true, true, true, true, true, true, false, false, false, false, false]) (v := (Value.int .i64 q.minCreate)) rfl (by kernel_rfl) (by kernel_rfl) (by kernel_rfl) (by kernel_rfl) (fun _ _ _ h => h) (fun w hS => x_load1 rfl Try.underlying2 rfl (hS.1 11 (Value.int .i64 q.minCreate) rfl)) ⟨Holds.rd H9_ 0 rfl, Holds.ro_at H9_ 1 rfl⟩ ?_
  refine A_take 28 (ls' := #[true, true, false, true, true, false, true, true, true, true, true, true, false, true, true, false, true, true, true, true, true, true, true, true, true, true, true, true, true, false, false, false, false]) (v := (Value.pointer (some ⟨b2_, 12, none⟩))) rfl (by kernel_rfl) (by kernel_rfl) (by kernel_rfl) (by kernel_rfl) (fun _ _ _ h => h) (fun w hS => by kernel_rfl) ⟨Holds.rd H9_ 0 rfl, Holds.ro_at H9_ 1 rfl⟩ ?_
  refine A_take 29 (ls' := #[true, true, false, true, true, false, true, true, true, true, true, true, false, true, true, false, true, true, true, true, true, true, true, true, true, true, true, true, true, true, false, false, false]) (v := (Value.int .i64 q.maxCreate)) rfl (by kernel_rfl) (by kernel_rfl) (by kernel_rfl) (by kernel_rfl) (fun _ _ _ h => h) (fun w hS => x_load1 rfl Try.underlying2 rfl (hS.1 12 (Value.int .i64 q.maxCreate) rfl)) ⟨Holds.rd H9_ 0 rfl, Holds.ro_at H9_ 1 rfl⟩ ?_
  refine A_ready (i := 2) (rs := [5]) (by kernel_rfl) ?_
  refine AllR.cons ?_ ?_
  · skip
    refine A_op (ls' := #[true, true, true, true, true, false, true, true, true, true, true, true, false, true, true, false, true, true, true, true, true, true, true, true, true, true, true, true, true, true, false, false, false]) rfl (by kernel_rfl) (T_s2b rfl Try.underlying9 Try.underlying25 Try.underlying5 H9_ ?_)
    intro b10_ cp11_ w12_ S14_ hc15_ H13_
    have S16_ := Same.trans (Same.trans S6_ (Same.drew _)) S14_
    have H17_ : Holds w12_ (sl 5 1 (Value.slice (some ⟨b10_, 0, none⟩) q.key.size cp11_) q.key.size (bytesV (ints q.key)) :: cl b2_ 40 [(Value.int .i64 q.kind), (Value.string q.key), (Value.string q.en), (Value.string q.val), (Value.int .i64 q.lease), (Value.int .i64 q.rev), (Value.int .i64 q.limit), (Value.int .i64 q.order), (Value.int .i64 q.target), (Value.int .i64 q.minMod), (Value.int .i64 q.maxMod), (Value.int .i64 q.minCreate), (Value.int .i64 q.maxCreate), (Value.bool q.keysOnly), (Value.bool q.countOnly), (Value.bool q.prev), (Value.bool q.ignValue), (Value.bool q.ignLease), (Value.slice q.cA q.cN q.cC), (Value.slice q.tA q.tN q.tC), (Value.slice q.eA q.eN q.eC)] :: ro R :: F) := cast2 (P := fun (c__ : List Value) (k__ : Nat) => Holds w12_ (sl 5 1 (Value.slice (some ⟨b10_, 0, none⟩) q.key.size cp11_) k__ c__ :: cl b2_ 40 [(Value.int .i64 q.kind), (Value.string q.key), (Value.string q.en), (Value.string q.val), (Value.int .i64 q.lease), (Value.int .i64 q.rev), (Value.int .i64 q.limit), (Value.int .i64 q.order), (Value.int .i64 q.target), (Value.int .i64 q.minMod), (Value.int .i64 q.maxMod), (Value.int .i64 q.minCreate), (Value.int .i64 q.maxCreate), (Value.bool q.keysOnly), (Value.bool q.countOnly), (Value.bool q.prev), (Value.bool q.ignValue), (Value.bool q.ignLease), (Value.slice q.cA q.cN q.cC), (Value.slice q.tA q.tN q.tC), (Value.slice q.eA q.eN q.eC)] :: ro R :: F)) (byteCells_bytesV _ : byteCells q.key = bytesV (ints q.key)) (rfl : q.key.size = q.key.size) H13_
    refine ⟨⟨Holds.rd H17_ 1 rfl, Holds.ro_at H17_ 2 rfl⟩, ?_⟩
    refine A_ready (i := 5) (rs := []) (by kernel_rfl) ?_
    refine AllR.cons ?_ AllR.nil
    have H21_ : Holds w12_ (ro R :: sl 5 1 (Value.slice (some ⟨b10_, 0, none⟩) q.key.size cp11_) q.key.size (bytesV (ints q.key)) :: cl b2_ 40 [(Value.int .i64 q.kind), (Value.string q.key), (Value.string q.en), (Value.string q.val), (Value.int .i64 q.lease), (Value.int .i64 q.rev), (Value.int .i64 q.limit), (Value.int .i64 q.order), (Value.int .i64 q.target), (Value.int .i64 q.minMod), (Value.int .i64 q.maxMod), (Value.int .i64 q.minCreate), (Value.int .i64 q.maxCreate), (Value.bool q.keysOnly), (Value.bool q.countOnly), (Value.bool q.prev), (Value.bool q.ignValue), (Value.bool q.ignLease), (Value.slice q.cA q.cN q.cC), (Value.slice q.tA q.tN q.tC), (Value.slice q.eA q.eN q.eC)] :: F) := (Holds.bring H17_ 2 rfl)
    refine A_op (ls' := #[true, true, true, true, true, true, true, true, true, true, true, true, false, true, true, false, true, true, true, true, true, true, true, true, true, true, true, true, true, true, false, false, false]) rfl (by kernel_rfl) (T_call (al := [(Value.string q.en)]) (pre := []) (F := sl 5 1 (Value.slice (some ⟨b10_, 0, none⟩) q.key.size cp11_) q.key.size (bytesV (ints q.key)) :: cl b2_ 40 [(Value.int .i64 q.kind), (Value.string q.key), (Value.string q.en), (Value.string q.val), (Value.int .i64 q.lease), (Value.int .i64 q.rev), (Value.int .i64 q.limit), (Value.int .i64 q.order), (Value.int .i64 q.target), (Value.int .i64 q.minMod), (Value.int .i64 q.maxMod), (Value.int .i64 q.minCreate), (Value.int .i64 q.maxCreate), (Value.bool q.keysOnly), (Value.bool q.countOnly), (Value.bool q.prev), (Value.bool q.ignValue), (Value.bool q.ignLease), (Value.slice q.cA q.cN q.cC), (Value.slice q.tA q.tN q.tC), (Value.slice q.eA q.eN q.eC)] :: F) rfl rfl cb62 (kBytesOf R q.en) H21_ ?_)
    rintro v25_ p26_ w22_ ⟨⟨a18_, m19_, c20_, rfl⟩, rfl⟩ S24_ H23_
    replace H23_ : Holds w22_ (ro R :: sl 5 1 (Value.slice (some ⟨b10_, 0, none⟩) q.key.size cp11_) q.key.size (bytesV (ints q.key)) :: cl b2_ 40 [(Value.int .i64 q.kind), (Value.string q.key), (Value.string q.en), (Value.string q.val), (Value.int .i64 q.lease), (Value.int .i64 q.rev), (Value.int .i64 q.limit), (Value.int .i64 q.order), (Value.int .i64 q.target), (Value.int .i64 q.minMod), (Value.int .i64 q.maxMod), (Value.int .i64 q.minCreate), (Value.int .i64 q.maxCreate), (Value.bool q.keysOnly), (Value.bool q.countOnly), (Value.bool q.prev), (Value.bool q.ignValue), (Value.bool q.ignLease), (Value.slice q.cA q.cN q.cC), (Value.slice q.tA q.tN q.tC), (Value.slice q.eA q.eN q.eC)] :: F) := H23_
    have S27_ := Same.trans S16_ S24_
    refine ⟨⟨Holds.rd H23_ 2 rfl, Holds.ro_at H23_ 0 rfl⟩, ?_⟩
    refine A_ready (i := 12) (rs := []) (by kernel_rfl) ?_
    refine AllR.cons ?_ AllR.nil
    refine A_op (ls' := #[true, true, true, true, true, true, true, true, true, true, true, true, true, true, true, false, true, true, true, true, true, true, true, true, true, true, true, true, true, true, false, false, false]) rfl (by kernel_rfl) (T_call (al := [(Value.int .i64 q.order)]) (pre := []) (F := sl 5 1 (Value.slice (some ⟨b10_, 0, none⟩) q.key.size cp11_) q.key.size (bytesV (ints q.key)) :: cl b2_ 40 [(Value.int .i64 q.kind), (Value.string q.key), (Value.string q.en), (Value.string q.val), (Value.int .i64 q.lease), (Value.int .i64 q.rev), (Value.int .i64 q.limit), (Value.int .i64 q.order), (Value.int .i64 q.target), (Value.int .i64 q.minMod), (Value.int .i64 q.maxMod), (Value.int .i64 q.minCreate), (Value.int .i64 q.maxCreate), (Value.bool q.keysOnly), (Value.bool q.countOnly), (Value.bool q.prev), (Value.bool q.ignValue), (Value.bool q.ignLease), (Value.slice q.cA q.cN q.cC), (Value.slice q.tA q.tN q.tC), (Value.slice q.eA q.eN q.eC)] :: F) rfl rfl cb61 (kOrder R q.order) H23_ ?_)
    rintro v32_ p33_ w29_ ⟨⟨r28_, rfl⟩, rfl⟩ S31_ H30_
    replace H30_ : Holds w29_ (ro R :: sl 5 1 (Value.slice (some ⟨b10_, 0, none⟩) q.key.size cp11_) q.key.size (bytesV (ints q.key)) :: cl b2_ 40 [(Value.int .i64 q.kind), (Value.string q.key), (Value.string q.en), (Value.string q.val), (Value.int .i64 q.lease), (Value.int .i64 q.rev), (Value.int .i64 q.limit), (Value.int .i64 q.order), (Value.int .i64 q.target), (Value.int .i64 q.minMod), (Value.int .i64 q.maxMod), (Value.int .i64 q.minCreate), (Value.int .i64 q.maxCreate), (Value.bool q.keysOnly), (Value.bool q.countOnly), (Value.bool q.prev), (Value.bool q.ignValue), (Value.bool q.ignLease), (Value.slice q.cA q.cN q.cC), (Value.slice q.tA q.tN q.tC), (Value.slice q.eA q.eN q.eC)] :: F) := H30_
    have S34_ := Same.trans S27_ S31_
    refine ⟨⟨Holds.rd H30_ 2 rfl, Holds.ro_at H30_ 0 rfl⟩, ?_⟩
    refine A_ready (i := 15) (rs := []) (by kernel_rfl) ?_
    refine AllR.cons ?_ AllR.nil
    refine A_op (ls' := #[true, true, true, true, true, true, true, true, true, true, true, true, true, true, true, true, true, true, true, true, true, true, true, true, true, true, true, true, true, true, false, false, false]) rfl (by kernel_rfl) (T_call (al := [(Value.int .i64 q.target)]) (pre := []) (F := sl 5 1 (Value.slice (some ⟨b10_, 0, none⟩) q.key.size cp11_) q.key.size (bytesV (ints q.key)) :: cl b2_ 40 [(Value.int .i64 q.kind), (Value.string q.key), (Value.string q.en), (Value.string q.val), (Value.int .i64 q.lease), (Value.int .i64 q.rev), (Value.int .i64 q.limit), (Value.int .i64 q.order), (Value.int .i64 q.target), (Value.int .i64 q.minMod), (Value.int .i64 q.maxMod), (Value.int .i64 q.minCreate), (Value.int .i64 q.maxCreate), (Value.bool q.keysOnly), (Value.bool q.countOnly), (Value.bool q.prev), (Value.bool q.ignValue), (Value.bool q.ignLease), (Value.slice q.cA q.cN q.cC), (Value.slice q.tA q.tN q.tC), (Value.slice q.eA q.eN q.eC)] :: F) rfl rfl cb61 (kOrder R q.target) H30_ ?_)
    rintro v39_ p40_ w36_ ⟨⟨r35_, rfl⟩, rfl⟩ S38_ H37_
    replace H37_ : Holds w36_ (ro R :: sl 5 1 (Value.slice (some ⟨b10_, 0, none⟩) q.key.size cp11_) q.key.size (bytesV (ints q.key)) :: cl b2_ 40 [(Value.int .i64 q.kind), (Value.string q.key), (Value.string q.en), (Value.string q.val), (Value.int .i64 q.lease), (Value.int .i64 q.rev), (Value.int .i64 q.limit), (Value.int .i64 q.order), (Value.int .i64 q.target), (Value.int .i64 q.minMod), (Value.int .i64 q.maxMod), (Value.int .i64 q.minCreate), (Value.int .i64 q.maxCreate), (Value.bool q.keysOnly), (Value.bool q.countOnly), (Value.bool q.prev), (Value.bool q.ignValue), (Value.bool q.ignLease), (Value.slice q.cA q.cN q.cC), (Value.slice q.tA q.tN q.tC), (Value.slice q.eA q.eN q.eC)] :: F) := H37_
    have S41_ := Same.trans S34_ S38_
    refine ⟨⟨Holds.rd H37_ 2 rfl, Holds.ro_at H37_ 0 rfl⟩, ?_⟩
    refine A_take 30 (ls' := #[true, true, true, true, true, true, true, true, true, true, true, true, true, true, true, true, true, true, true, true, true, true, true, true, true, true, true, true, true, true, true, false, false]) (v := (Value.agg #[(Value.slice (some ⟨b10_, 0, none⟩) q.key.size cp11_), (Value.slice a18_ m19_ c20_), (Value.int .i64 q.limit), (Value.int .i64 q.rev), (Value.int .i32 r28_), (Value.int .i32 r35_), (Value.bool q.prev), (Value.bool q.keysOnly), (Value.bool q.countOnly), (Value.int .i64 q.minMod), (Value.int .i64 q.maxMod), (Value.int .i64 q.minCreate), (Value.int .i64 q.maxCreate)])) rfl (by kernel_rfl) (by kernel_rfl) (by kernel_rfl) (by kernel_rfl) (fun _ _ _ h => h) (fun w hS => by kernel_rfl) ⟨Holds.rd H37_ 2 rfl, Holds.ro_at H37_ 0 rfl⟩ ?_
    refine A_ready (i := 31) (rs := []) (by kernel_rfl) ?_
    refine AllR.cons ?_ AllR.nil
    refine A_op (ls' := #[true, true, true, true, true, true, true, true, true, true, true, true, true, true, true, true, true, true, true, true, true, true, true, true, true, true, true, true, true, true, true, true, false]) rfl (by kernel_rfl) (T_box (v := (Value.agg #[(Value.slice (some ⟨b10_, 0, none⟩) q.key.size cp11_), (Value.slice a18_ m19_ c20_), (Value.int .i64 q.limit), (Value.int .i64 q.rev), (Value.int .i32 r28_), (Value.int .i32 r35_), (Value.bool q.prev), (Value.bool q.keysOnly), (Value.bool q.countOnly), (Value.int .i64 q.minMod), (Value.int .i64 q.maxMod), (Value.int .i64 q.minCreate), (Value.int .i64 q.maxCreate)])) rfl H37_ ?_)
    intro b42_ w43_ S45_ H44_
    replace H44_ : Holds w43_ (cl b42_ 135 [(Value.slice (some ⟨b10_, 0, none⟩) q.key.size cp11_), (Value.slice a18_ m19_ c20_), (Value.int .i64 q.limit), (Value.int .i64 q.rev), (Value.int .i32 r28_), (Value.int .i32 r35_), (Value.bool q.prev), (Value.bool q.keysOnly), (Value.bool q.countOnly), (Value.int .i64 q.minMod), (Value.int .i64 q.maxMod), (Value.int .i64 q.minCreate), (Value.int .i64 q.maxCreate)] :: ro R :: sl 5 1 (Value.slice (some ⟨b10_, 0, none⟩) q.key.size cp11_) q.key.size (bytesV (ints q.key)) :: cl b2_ 40 [(Value.int .i64 q.kind), (Value.string q.key), (Value.string q.en), (Value.string q.val), (Value.int .i64 q.lease), (Value.int .i64 q.rev), (Value.int .i64 q.limit), (Value.int .i64 q.order), (Value.int .i64 q.target), (Value.int .i64 q.minMod), (Value.int .i64 q.maxMod), (Value.int .i64 q.minCreate), (Value.int .i64 q.maxCreate), (Value.bool q.keysOnly), (Value.bool q.countOnly), (Value.bool q.prev), (Value.bool q.ignValue), (Value.bool q.ignLease), (Value.slice q.cA q.cN q.cC), (Value.slice q.tA q.tN q.tC), (Value.slice q.eA q.eN q.eC)] :: F) := H44_
    have S46_ := Same.trans S41_ S45_
    refine ⟨⟨Holds.rd H44_ 3 rfl, Holds.ro_at H44_ 1 rfl⟩, ?_⟩
    refine A_take 32 (ls' := #[true, true, true, true, true, true, true, true, true, true, true, true, true, true, true, true, true, true, true, true, true, true, true, true, true, true, true, true, true, true, true, true, true]) (v := (Value.pointer (some ⟨b42_, 0, none⟩))) rfl (by kernel_rfl) (by kernel_rfl) (by kernel_rfl) (by kernel_rfl) (fun _ _ _ h => h) (fun w hS => x_assign rfl) ⟨Holds.rd H44_ 3 rfl, Holds.ro_at H44_ 1 rfl⟩ ?_
    refine A_done (by kernel_rfl) ?_
    refine (X_then (hK7_ _ _ ?_))
    clear hK7_
    refine C_ret ?_
    refine R_any (v := (Value.pointer (some ⟨b42_, 0, none⟩))) (run_results1 rfl rfl) ?_
    have H47_ : Holds w43_ (ro R :: cl b42_ 135 [(Value.slice (some ⟨b10_, 0, none⟩) q.key.size cp11_), (Value.slice a18_ m19_ c20_), (Value.int .i64 q.limit), (Value.int .i64 q.rev), (Value.int .i32 r28_), (Value.int .i32 r35_), (Value.bool q.prev), (Value.bool q.keysOnly), (Value.bool q.countOnly), (Value.int .i64 q.minMod), (Value.int .i64 q.maxMod), (Value.int .i64 q.minCreate), (Value.int .i64 q.maxCreate)] :: F) := (Holds.erase (Holds.erase (Holds.bring (Holds.bring H44_ 0 rfl) 1 rfl) 2) 2)
    exact ⟨_, [cl b42_ 135 [(Value.slice (some ⟨b10_, 0, none⟩) q.key.size cp11_), (Value.slice a18_ m19_ c20_), (Value.int .i64 q.limit), (Value.int .i64 q.rev), (Value.int .i32 r28_), (Value.int .i32 r35_), (Value.bool q.prev), (Value.bool q.keysOnly), (Value.bool q.countOnly), (Value.int .i64 q.minMod), (Value.int .i64 q.maxMod), (Value.int .i64 q.minCreate), (Value.int .i64 q.maxCreate)]], rfl, ⟨b42_, _, rfl, rfl, rfl⟩, S46_, H47_⟩
  refine AllR.cons ?_ AllR.nil
  have H51_ : Holds w3_.drew (ro R :: cl b2_ 40 [(Value.int .i64 q.kind), (Value.string q.key), (Value.string q.en), (Value.string q.val), (Value.int .i64 q.lease), (Value.int .i64 q.rev), (Value.int .i64 q.limit), (Value.int .i64 q.order), (Value.int .i64 q.target), (Value.int .i64 q.minMod), (Value.int .i64 q.maxMod), (Value.int .i64 q.minCreate), (Value.int .i64 q.maxCreate), (Value.bool q.keysOnly), (Value.bool q.countOnly), (Value.bool q.prev), (Value.bool q.ignValue), (Value.bool q.ignLease), (Value.slice q.cA q.cN q.cC), (Value.slice q.tA q.tN q.tC), (Value.slice q.eA q.eN q.eC)] :: F) := (Holds.bring H9_ 1 rfl)
  refine A_op (ls' := #[true, true, false, true, true, true, true, true, true, true, true, true, false, true, true, false, true, true, true, true, true, true, true, true, true, true, true, true, true, true, false, false, false]) rfl (by kernel_rfl) (T_call (al := [(Value.string q.en)]) (pre := []) (F := cl b2_ 40 [(Value.int .i64 q.kind), (Value.string q.key), (Value.string q.en), (Value.string q.val), (Value.int .i64 q.lease), (Value.int .i64 q.rev), (Value.int .i64 q.limit), (Value.int .i64 q.order), (Value.int .i64 q.target), (Value.int .i64 q.minMod), (Value.int .i64 q.maxMod), (Value.int .i64 q.minCreate), (Value.int .i64 q.maxCreate), (Value.bool q.keysOnly), (Value.bool q.countOnly), (Value.bool q.prev), (Value.bool q.ignValue), (Value.bool q.ignLease), (Value.slice q.cA q.cN q.cC), (Value.slice q.tA q.tN q.tC), (Value.slice q.eA q.eN q.eC)] :: F) rfl rfl cb62 (kBytesOf R q.en) H51_ ?_)
  rintro v55_ p56_ w52_ ⟨⟨a48_, m49_, c50_, rfl⟩, rfl⟩ S54_ H53_
  replace H53_ : Holds w52_ (ro R :: cl b2_ 40 [(Value.int .i64 q.kind), (Value.string q.key), (Value.string q.en), (Value.string q.val), (Value.int .i64 q.lease), (Value.int .i64 q.rev), (Value.int .i64 q.limit), (Value.int .i64 q.order), (Value.int .i64 q.target), (Value.int .i64 q.minMod), (Value.int .i64 q.maxMod), (Value.int .i64 q.minCreate), (Value.int .i64 q.maxCreate), (Value.bool q.keysOnly), (Value.bool q.countOnly), (Value.bool q.prev), (Value.bool q.ignValue), (Value.bool q.ignLease), (Value.slice q.cA q.cN q.cC), (Value.slice q.tA q.tN q.tC), (Value.slice q.eA q.eN q.eC)] :: F) := H53_
  have S57_ := Same.trans (Same.trans S6_ (Same.drew _)) S54_
  refine ⟨⟨Holds.rd H53_ 1 rfl, Holds.ro_at H53_ 0 rfl⟩, ?_⟩
  refine A_ready (i := 2) (rs := [12]) (by kernel_rfl) ?_
  refine AllR.cons ?_ ?_
  · skip
    refine A_op (ls' := #[true, true, true, true, true, true, true, true, true, true, true, true, false, true, true, false, true, true, true, true, true, true, true, true, true, true, true, true, true, true, false, false, false]) rfl (by kernel_rfl) (T_s2b rfl Try.underlying9 Try.underlying25 Try.underlying5 H53_ ?_)
    intro b58_ cp59_ w60_ S62_ hc63_ H61_
    have S64_ := Same.trans S57_ S62_
    have H65_ : Holds w60_ (sl 5 1 (Value.slice (some ⟨b58_, 0, none⟩) q.key.size cp59_) q.key.size (bytesV (ints q.key)) :: ro R :: cl b2_ 40 [(Value.int .i64 q.kind), (Value.string q.key), (Value.string q.en), (Value.string q.val), (Value.int .i64 q.lease), (Value.int .i64 q.rev), (Value.int .i64 q.limit), (Value.int .i64 q.order), (Value.int .i64 q.target), (Value.int .i64 q.minMod), (Value.int .i64 q.maxMod), (Value.int .i64 q.minCreate), (Value.int .i64 q.maxCreate), (Value.bool q.keysOnly), (Value.bool q.countOnly), (Value.bool q.prev), (Value.bool q.ignValue), (Value.bool q.ignLease), (Value.slice q.cA q.cN q.cC), (Value.slice q.tA q.tN q.tC), (Value.slice q.eA q.eN q.eC)] :: F) := cast2 (P := fun (c__ : List Value) (k__ : Nat) => Holds w60_ (sl 5 1 (Value.slice (some ⟨b58_, 0, none⟩) q.key.size cp59_) k__ c__ :: ro R :: cl b2_ 40 [(Value.int .i64 q.kind), (Value.string q.key), (Value.string q.en), (Value.string q.val), (Value.int .i64 q.lease), (Value.int .i64 q.rev), (Value.int .i64 q.limit), (Value.int .i64 q.order), (Value.int .i64 q.target), (Value.int .i64 q.minMod), (Value.int .i64 q.maxMod), (Value.int .i64 q.minCreate), (Value.int .i64 q.maxCreate), (Value.bool q.keysOnly), (Value.bool q.countOnly), (Value.bool q.prev), (Value.bool q.ignValue), (Value.bool q.ignLease), (Value.slice q.cA q.cN q.cC), (Value.slice q.tA q.tN q.tC), (Value.slice q.eA q.eN q.eC)] :: F)) (byteCells_bytesV _ : byteCells q.key = bytesV (ints q.key)) (rfl : q.key.size = q.key.size) H61_
    refine ⟨⟨Holds.rd H65_ 2 rfl, Holds.ro_at H65_ 1 rfl⟩, ?_⟩
    refine A_ready (i := 12) (rs := []) (by kernel_rfl) ?_
    refine AllR.cons ?_ AllR.nil
    have H67_ : Holds w60_ (ro R :: sl 5 1 (Value.slice (some ⟨b58_, 0, none⟩) q.key.size cp59_) q.key.size (bytesV (ints q.key)) :: cl b2_ 40 [(Value.int .i64 q.kind), (Value.string q.key), (Value.string q.en), (Value.string q.val), (Value.int .i64 q.lease), (Value.int .i64 q.rev), (Value.int .i64 q.limit), (Value.int .i64 q.order), (Value.int .i64 q.target), (Value.int .i64 q.minMod), (Value.int .i64 q.maxMod), (Value.int .i64 q.minCreate), (Value.int .i64 q.maxCreate), (Value.bool q.keysOnly), (Value.bool q.countOnly), (Value.bool q.prev), (Value.bool q.ignValue), (Value.bool q.ignLease), (Value.slice q.cA q.cN q.cC), (Value.slice q.tA q.tN q.tC), (Value.slice q.eA q.eN q.eC)] :: F) := (Holds.bring H65_ 1 rfl)
    refine A_op (ls' := #[true, true, true, true, true, true, true, true, true, true, true, true, true, true, true, false, true, true, true, true, true, true, true, true, true, true, true, true, true, true, false, false, false]) rfl (by kernel_rfl) (T_call (al := [(Value.int .i64 q.order)]) (pre := []) (F := sl 5 1 (Value.slice (some ⟨b58_, 0, none⟩) q.key.size cp59_) q.key.size (bytesV (ints q.key)) :: cl b2_ 40 [(Value.int .i64 q.kind), (Value.string q.key), (Value.string q.en), (Value.string q.val), (Value.int .i64 q.lease), (Value.int .i64 q.rev), (Value.int .i64 q.limit), (Value.int .i64 q.order), (Value.int .i64 q.target), (Value.int .i64 q.minMod), (Value.int .i64 q.maxMod), (Value.int .i64 q.minCreate), (Value.int .i64 q.maxCreate), (Value.bool q.keysOnly), (Value.bool q.countOnly), (Value.bool q.prev), (Value.bool q.ignValue), (Value.bool q.ignLease), (Value.slice q.cA q.cN q.cC), (Value.slice q.tA q.tN q.tC), (Value.slice q.eA q.eN q.eC)] :: F) rfl rfl cb61 (kOrder R q.order) H67_ ?_)
    rintro v71_ p72_ w68_ ⟨⟨r66_, rfl⟩, rfl⟩ S70_ H69_
    replace H69_ : Holds w68_ (ro R :: sl 5 1 (Value.slice (some ⟨b58_, 0, none⟩) q.key.size cp59_) q.key.size (bytesV (ints q.key)) :: cl b2_ 40 [(Value.int .i64 q.kind), (Value.string q.key), (Value.string q.en), (Value.string q.val), (Value.int .i64 q.lease), (Value.int .i64 q.rev), (Value.int .i64 q.limit), (Value.int .i64 q.order), (Value.int .i64 q.target), (Value.int .i64 q.minMod), (Value.int .i64 q.maxMod), (Value.int .i64 q.minCreate), (Value.int .i64 q.maxCreate), (Value.bool q.keysOnly), (Value.bool q.countOnly), (Value.bool q.prev), (Value.bool q.ignValue), (Value.bool q.ignLease), (Value.slice q.cA q.cN q.cC), (Value.slice q.tA q.tN q.tC), (Value.slice q.eA q.eN q.eC)] :: F) := H69_
    have S73_ := Same.trans S64_ S70_
    refine ⟨⟨Holds.rd H69_ 2 rfl, Holds.ro_at H69_ 0 rfl⟩, ?_⟩
    refine A_ready (i := 15) (rs := []) (by kernel_rfl) ?_
    refine AllR.cons ?_ AllR.nil
    refine A_op (ls' := #[true, true, true, true, true, true, true, true, true, true, true, true, true, true, true, true, true, true, true, true, true, true, true, true, true, true, true, true, true, true, false, false, false]) rfl (by kernel_rfl) (T_call (al := [(Value.int .i64 q.target)]) (pre := []) (F := sl 5 1 (Value.slice (some ⟨b58_, 0, none⟩) q.key.size cp59_) q.key.size (bytesV (ints q.key)) :: cl b2_ 40 [(Value.int .i64 q.kind), (Value.string q.key), (Value.string q.en), (Value.string q.val), (Value.int .i64 q.lease), (Value.int .i64 q.rev), (Value.int .i64 q.limit), (Value.int .i64 q.order), (Value.int .i64 q.target), (Value.int .i64 q.minMod), (Value.int .i64 q.maxMod), (Value.int .i64 q.minCreate), (Value.int .i64 q.maxCreate), (Value.bool q.keysOnly), (Value.bool q.countOnly), (Value.bool q.prev), (Value.bool q.ignValue), (Value.bool q.ignLease), (Value.slice q.cA q.cN q.cC), (Value.slice q.tA q.tN q.tC), (Value.slice q.eA q.eN q.eC)] :: F) rfl rfl cb61 (kOrder R q.target) H69_ ?_)
    rintro v78_ p79_ w75_ ⟨⟨r74_, rfl⟩, rfl⟩ S77_ H76_
    replace H76_ : Holds w75_ (ro R :: sl 5 1 (Value.slice (some ⟨b58_, 0, none⟩) q.key.size cp59_) q.key.size (bytesV (ints q.key)) :: cl b2_ 40 [(Value.int .i64 q.kind), (Value.string q.key), (Value.string q.en), (Value.string q.val), (Value.int .i64 q.lease), (Value.int .i64 q.rev), (Value.int .i64 q.limit), (Value.int .i64 q.order), (Value.int .i64 q.target), (Value.int .i64 q.minMod), (Value.int .i64 q.maxMod), (Value.int .i64 q.minCreate), (Value.int .i64 q.maxCreate), (Value.bool q.keysOnly), (Value.bool q.countOnly), (Value.bool q.prev), (Value.bool q.ignValue), (Value.bool q.ignLease), (Value.slice q.cA q.cN q.cC), (Value.slice q.tA q.tN q.tC), (Value.slice q.eA q.eN q.eC)] :: F) := H76_
    have S80_ := Same.trans S73_ S77_
    refine ⟨⟨Holds.rd H76_ 2 rfl, Holds.ro_at H76_ 0 rfl⟩, ?_⟩
    refine A_take 30 (ls' := #[true, true, true, true, true, true, true, true, true, true, true, true, true, true, true, true, true, true, true, true, true, true, true, true, true, true, true, true, true, true, true, false, false]) (v := (Value.agg #[(Value.slice (some ⟨b58_, 0, none⟩) q.key.size cp59_), (Value.slice a48_ m49_ c50_), (Value.int .i64 q.limit), (Value.int .i64 q.rev), (Value.int .i32 r66_), (Value.int .i32 r74_), (Value.bool q.prev), (Value.bool q.keysOnly), (Value.bool q.countOnly), (Value.int .i64 q.minMod), (Value.int .i64 q.maxMod), (Value.int .i64 q.minCreate), (Value.int .i64 q.maxCreate)])) rfl (by kernel_rfl) (by kernel_rfl) (by kernel_rfl) (by kernel_rfl) (fun _ _ _ h => h) (fun w hS => by kernel_rfl) ⟨Holds.rd H76_ 2 rfl, Holds.ro_at H76_ 0 rfl⟩ ?_
    refine A_ready (i := 31) (rs := []) (by kernel_rfl) ?_
    refine AllR.cons ?_ AllR.nil
    refine A_op (ls' := #[true, true, true, true, true, true, true, true, true, true, true, true, true, true, true, true, true, true, true, true, true, true, true, true, true, true, true, true, true, true, true, true, false]) rfl (by kernel_rfl) (T_box (v := (Value.agg #[(Value.slice (some ⟨b58_, 0, none⟩) q.key.size cp59_), (Value.slice a48_ m49_ c50_), (Value.int .i64 q.limit), (Value.int .i64 q.rev), (Value.int .i32 r66_), (Value.int .i32 r74_), (Value.bool q.prev), (Value.bool q.keysOnly), (Value.bool q.countOnly), (Value.int .i64 q.minMod), (Value.int .i64 q.maxMod), (Value.int .i64 q.minCreate), (Value.int .i64 q.maxCreate)])) rfl H76_ ?_)
    intro b81_ w82_ S84_ H83_
    replace H83_ : Holds w82_ (cl b81_ 135 [(Value.slice (some ⟨b58_, 0, none⟩) q.key.size cp59_), (Value.slice a48_ m49_ c50_), (Value.int .i64 q.limit), (Value.int .i64 q.rev), (Value.int .i32 r66_), (Value.int .i32 r74_), (Value.bool q.prev), (Value.bool q.keysOnly), (Value.bool q.countOnly), (Value.int .i64 q.minMod), (Value.int .i64 q.maxMod), (Value.int .i64 q.minCreate), (Value.int .i64 q.maxCreate)] :: ro R :: sl 5 1 (Value.slice (some ⟨b58_, 0, none⟩) q.key.size cp59_) q.key.size (bytesV (ints q.key)) :: cl b2_ 40 [(Value.int .i64 q.kind), (Value.string q.key), (Value.string q.en), (Value.string q.val), (Value.int .i64 q.lease), (Value.int .i64 q.rev), (Value.int .i64 q.limit), (Value.int .i64 q.order), (Value.int .i64 q.target), (Value.int .i64 q.minMod), (Value.int .i64 q.maxMod), (Value.int .i64 q.minCreate), (Value.int .i64 q.maxCreate), (Value.bool q.keysOnly), (Value.bool q.countOnly), (Value.bool q.prev), (Value.bool q.ignValue), (Value.bool q.ignLease), (Value.slice q.cA q.cN q.cC), (Value.slice q.tA q.tN q.tC), (Value.slice q.eA q.eN q.eC)] :: F) := H83_
    have S85_ := Same.trans S80_ S84_
    refine ⟨⟨Holds.rd H83_ 3 rfl, Holds.ro_at H83_ 1 rfl⟩, ?_⟩
    refine A_take 32 (ls' := #[true, true, true, true, true, true, true, true, true, true, true, true, true, true, true, true, true, true, true, true, true, true, true, true, true, true, true, true, true, true, true, true, true]) (v := (Value.pointer (some ⟨b81_, 0, none⟩))) rfl (by kernel_rfl) (by kernel_rfl) (by kernel_rfl) (by kernel_rfl) (fun _ _ _ h => h) (fun w hS => x_assign rfl) ⟨Holds.rd H83_ 3 rfl, Holds.ro_at H83_ 1 rfl⟩ ?_
    refine A_done (by kernel_rfl) ?_
    refine (X_then (hK7_ _ _ ?_))
    clear hK7_
    refine C_ret ?_
    refine R_any (v := (Value.pointer (some ⟨b81_, 0, none⟩))) (run_results1 rfl rfl) ?_
    have H86_ : Holds w82_ (ro R :: cl b81_ 135 [(Value.slice (some ⟨b58_, 0, none⟩) q.key.size cp59_), (Value.slice a48_ m49_ c50_), (Value.int .i64 q.limit), (Value.int .i64 q.rev), (Value.int .i32 r66_), (Value.int .i32 r74_), (Value.bool q.prev), (Value.bool q.keysOnly), (Value.bool q.countOnly), (Value.int .i64 q.minMod), (Value.int .i64 q.maxMod), (Value.int .i64 q.minCreate), (Value.int .i64 q.maxCreate)] :: F) := (Holds.erase (Holds.erase (Holds.bring (Holds.bring H83_ 0 rfl) 1 rfl) 2) 2)
    exact ⟨_, [cl b81_ 135 [(Value.slice (some ⟨b58_, 0, none⟩) q.key.size cp59_), (Value.slice a48_ m49_ c50_), (Value.int .i64 q.limit), (Value.int .i64 q.rev), (Value.int .i32 r66_), (Value.int .i32 r74_), (Value.bool q.prev), (Value.bool q.keysOnly), (Value.bool q.countOnly), (Value.int .i64 q.minMod), (Value.int .i64 q.maxMod), (Value.int .i64 q.minCreate), (Value.int .i64 q.maxCreate)]], rfl, ⟨b81_, _, rfl, rfl, rfl⟩, S85_, H86_⟩
  refine AllR.cons ?_ AllR.nil
  refine A_op (ls' := #[true, true, false, true, true, true, true, true, true, true, true, true, true, true, true, false, true, true, true, true, true, true, true, true, true, true, true, true, true, true, false, false, false]) rfl (by kernel_rfl) (T_call (al := [(Value.int .i64 q.order)]) (pre := []) (F := cl b2_ 40 [(Value.int .i64 q.kind), (Value.string q.key), (Value.string q.en), (Value.string q.val), (Value.int .i64 q.lease), (Value.int .i64 q.rev), (Value.int .i64 q.limit), (Value.int .i64 q.order), (Value.int .i64 q.target), (Value.int .i64 q.minMod), (Value.int .i64 q.maxMod), (Value.int .i64 q.minCreate), (Value.int .i64 q.maxCreate), (Value.bool q.keysOnly), (Value.bool q.countOnly), (Value.bool q.prev), (Value.bool q.ignValue), (Value.bool q.ignLease), (Value.slice q.cA q.cN q.cC), (Value.slice q.tA q.tN q.tC), (Value.slice q.eA q.eN q.eC)] :: F) rfl rfl cb61 (kOrder R q.order) H53_ ?_)
  rintro v91_ p92_ w88_ ⟨⟨r87_, rfl⟩, rfl⟩ S90_ H89_
  replace H89_ : Holds w88_ (ro R :: cl b2_ 40 [(Value.int .i64 q.kind), (Value.string q.key), (Value.string q.en), (Value.string q.val), (Value.int .i64 q.lease), (Value.int .i64 q.rev), (Value.int .i64 q.limit), (Value.int .i64 q.order), (Value.int .i64 q.target), (Value.int .i64 q.minMod), (Value.int .i64 q.maxMod), (Value.int .i64 q.minCreate), (Value.int .i64 q.maxCreate), (Value.bool q.keysOnly), (Value.bool q.countOnly), (Value.bool q.prev), (Value.bool q.ignValue), (Value.bool q.ignLease), (Value.slice q.cA q.cN q.cC), (Value.slice q.tA q.tN q.tC), (Value.slice q.eA q.eN q.eC)] :: F) := H89_
  have S93_ := Same.trans S57_ S90_
  refine ⟨⟨Holds.rd H89_ 1 rfl, Holds.ro_at H89_ 0 rfl⟩, ?_⟩
  refine A_ready (i := 2) (rs := [15]) (by kernel_rfl) ?_
  refine AllR.cons ?_ ?_
  · skip
    refine A_op (ls' := #[true, true, true, true, true, true, true, true, true, true, true, true, true, true, true, false, true, true, true, true, true, true, true, true, true, true, true, true, true, true, false, false, false]) rfl (by kernel_rfl) (T_s2b rfl Try.underlying9 Try.underlying25 Try.underlying5 H89_ ?_)
    intro b94_ cp95_ w96_ S98_ hc99_ H97_
    have S100_ := Same.trans S93_ S98_
    have H101_ : Holds w96_ (sl 5 1 (Value.slice (some ⟨b94_, 0, none⟩) q.key.size cp95_) q.key.size (bytesV (ints q.key)) :: ro R :: cl b2_ 40 [(Value.int .i64 q.kind), (Value.string q.key), (Value.string q.en), (Value.string q.val), (Value.int .i64 q.lease), (Value.int .i64 q.rev), (Value.int .i64 q.limit), (Value.int .i64 q.order), (Value.int .i64 q.target), (Value.int .i64 q.minMod), (Value.int .i64 q.maxMod), (Value.int .i64 q.minCreate), (Value.int .i64 q.maxCreate), (Value.bool q.keysOnly), (Value.bool q.countOnly), (Value.bool q.prev), (Value.bool q.ignValue), (Value.bool q.ignLease), (Value.slice q.cA q.cN q.cC), (Value.slice q.tA q.tN q.tC), (Value.slice q.eA q.eN q.eC)] :: F) := cast2 (P := fun (c__ : List Value) (k__ : Nat) => Holds w96_ (sl 5 1 (Value.slice (some ⟨b94_, 0, none⟩) q.key.size cp95_) k__ c__ :: ro R :: cl b2_ 40 [(Value.int .i64 q.kind), (Value.string q.key), (Value.string q.en), (Value.string q.val), (Value.int .i64 q.lease), (Value.int .i64 q.rev), (Value.int .i64 q.limit), (Value.int .i64 q.order), (Value.int .i64 q.target), (Value.int .i64 q.minMod), (Value.int .i64 q.maxMod), (Value.int .i64 q.minCreate), (Value.int .i64 q.maxCreate), (Value.bool q.keysOnly), (Value.bool q.countOnly), (Value.bool q.prev), (Value.bool q.ignValue), (Value.bool q.ignLease), (Value.slice q.cA q.cN q.cC), (Value.slice q.tA q.tN q.tC), (Value.slice q.eA q.eN q.eC)] :: F)) (byteCells_bytesV _ : byteCells q.key = bytesV (ints q.key)) (rfl : q.key.size = q.key.size) H97_
    refine ⟨⟨Holds.rd H101_ 2 rfl, Holds.ro_at H101_ 1 rfl⟩, ?_⟩
    refine A_ready (i := 15) (rs := []) (by kernel_rfl) ?_
    refine AllR.cons ?_ AllR.nil
    have H103_ : Holds w96_ (ro R :: sl 5 1 (Value.slice (some ⟨b94_, 0, none⟩) q.key.size cp95_) q.key.size (bytesV (ints q.key)) :: cl b2_ 40 [(Value.int .i64 q.kind), (Value.string q.key), (Value.string q.en), (Value.string q.val), (Value.int .i64 q.lease), (Value.int .i64 q.rev), (Value.int .i64 q.limit), (Value.int .i64 q.order), (Value.int .i64 q.target), (Value.int .i64 q.minMod), (Value.int .i64 q.maxMod), (Value.int .i64 q.minCreate), (Value.int .i64 q.maxCreate), (Value.bool q.keysOnly), (Value.bool q.countOnly), (Value.bool q.prev), (Value.bool q.ignValue), (Value.bool q.ignLease), (Value.slice q.cA q.cN q.cC), (Value.slice q.tA q.tN q.tC), (Value.slice q.eA q.eN q.eC)] :: F) := (Holds.bring H101_ 1 rfl)
    refine A_op (ls' := #[true, true, true, true, true, true, true, true, true, true, true, true, true, true, true, true, true, true, true, true, true, true, true, true, true, true, true, true, true, true, false, false, false]) rfl (by kernel_rfl) (T_call (al := [(Value.int .i64 q.target)]) (pre := []) (F := sl 5 1 (Value.slice (some ⟨b94_, 0, none⟩) q.key.size cp95_) q.key.size (bytesV (ints q.key)) :: cl b2_ 40 [(Value.int .i64 q.kind), (Value.string q.key), (Value.string q.en), (Value.string q.val), (Value.int .i64 q.lease), (Value.int .i64 q.rev), (Value.int .i64 q.limit), (Value.int .i64 q.order), (Value.int .i64 q.target), (Value.int .i64 q.minMod), (Value.int .i64 q.maxMod), (Value.int .i64 q.minCreate), (Value.int .i64 q.maxCreate), (Value.bool q.keysOnly), (Value.bool q.countOnly), (Value.bool q.prev), (Value.bool q.ignValue), (Value.bool q.ignLease), (Value.slice q.cA q.cN q.cC), (Value.slice q.tA q.tN q.tC), (Value.slice q.eA q.eN q.eC)] :: F) rfl rfl cb61 (kOrder R q.target) H103_ ?_)
    rintro v107_ p108_ w104_ ⟨⟨r102_, rfl⟩, rfl⟩ S106_ H105_
    replace H105_ : Holds w104_ (ro R :: sl 5 1 (Value.slice (some ⟨b94_, 0, none⟩) q.key.size cp95_) q.key.size (bytesV (ints q.key)) :: cl b2_ 40 [(Value.int .i64 q.kind), (Value.string q.key), (Value.string q.en), (Value.string q.val), (Value.int .i64 q.lease), (Value.int .i64 q.rev), (Value.int .i64 q.limit), (Value.int .i64 q.order), (Value.int .i64 q.target), (Value.int .i64 q.minMod), (Value.int .i64 q.maxMod), (Value.int .i64 q.minCreate), (Value.int .i64 q.maxCreate), (Value.bool q.keysOnly), (Value.bool q.countOnly), (Value.bool q.prev), (Value.bool q.ignValue), (Value.bool q.ignLease), (Value.slice q.cA q.cN q.cC), (Value.slice q.tA q.tN q.tC), (Value.slice q.eA q.eN q.eC)] :: F) := H105_
    have S109_ := Same.trans S100_ S106_
    refine ⟨⟨Holds.rd H105_ 2 rfl, Holds.ro_at H105_ 0 rfl⟩, ?_⟩
    refine A_take 30 (ls' := #[true, true, true, true, true, true, true, true, true, true, true, true, true, true, true, true, true, true, true, true, true, true, true, true, true, true, true, true, true, true, true, false, false]) (v := (Value.agg #[(Value.slice (some ⟨b94_, 0, none⟩) q.key.size cp95_), (Value.slice a48_ m49_ c50_), (Value.int .i64 q.limit), (Value.int .i64 q.rev), (Value.int .i32 r87_), (Value.int .i32 r102_), (Value.bool q.prev), (Value.bool q.keysOnly), (Value.bool q.countOnly), (Value.int .i64 q.minMod), (Value.int .i64 q.maxMod), (Value.int .i64 q.minCreate), (Value.int .i64 q.maxCreate)])) rfl (by kernel_rfl) (by kernel_rfl) (by kernel_rfl) (by kernel_rfl) (fun _ _ _ h => h) (fun w hS => by kernel_rfl) ⟨Holds.rd H105_ 2 rfl, Holds.ro_at H105_ 0 rfl⟩ ?_
    refine A_ready (i := 31) (rs := []) (by kernel_rfl) ?_
    refine AllR.cons ?_ AllR.nil
    refine A_op (ls' := #[true, true, true, true, true, true, true, true, true, true, true, true, true, true, true, true, true, true, true, true, true, true, true, true, true, true, true, true, true, true, true, true, false]) rfl (by kernel_rfl) (T_box (v := (Value.agg #[(Value.slice (some ⟨b94_, 0, none⟩) q.key.size cp95_), (Value.slice a48_ m49_ c50_), (Value.int .i64 q.limit), (Value.int .i64 q.rev), (Value.int .i32 r87_), (Value.int .i32 r102_), (Value.bool q.prev), (Value.bool q.keysOnly), (Value.bool q.countOnly), (Value.int .i64 q.minMod), (Value.int .i64 q.maxMod), (Value.int .i64 q.minCreate), (Value.int .i64 q.maxCreate)])) rfl H105_ ?_)
    intro b110_ w111_ S113_ H112_
    replace H112_ : Holds w111_ (cl b110_ 135 [(Value.slice (some ⟨b94_, 0, none⟩) q.key.size cp95_), (Value.slice a48_ m49_ c50_), (Value.int .i64 q.limit), (Value.int .i64 q.rev), (Value.int .i32 r87_), (Value.int .i32 r102_), (Value.bool q.prev), (Value.bool q.keysOnly), (Value.bool q.countOnly), (Value.int .i64 q.minMod), (Value.int .i64 q.maxMod), (Value.int .i64 q.minCreate), (Value.int .i64 q.maxCreate)] :: ro R :: sl 5 1 (Value.slice (some ⟨b94_, 0, none⟩) q.key.size cp95_) q.key.size (bytesV (ints q.key)) :: cl b2_ 40 [(Value.int .i64 q.kind), (Value.string q.key), (Value.string q.en), (Value.string q.val), (Value.int .i64 q.lease), (Value.int .i64 q.rev), (Value.int .i64 q.limit), (Value.int .i64 q.order), (Value.int .i64 q.target), (Value.int .i64 q.minMod), (Value.int .i64 q.maxMod), (Value.int .i64 q.minCreate), (Value.int .i64 q.maxCreate), (Value.bool q.keysOnly), (Value.bool q.countOnly), (Value.bool q.prev), (Value.bool q.ignValue), (Value.bool q.ignLease), (Value.slice q.cA q.cN q.cC), (Value.slice q.tA q.tN q.tC), (Value.slice q.eA q.eN q.eC)] :: F) := H112_
    have S114_ := Same.trans S109_ S113_
    refine ⟨⟨Holds.rd H112_ 3 rfl, Holds.ro_at H112_ 1 rfl⟩, ?_⟩
    refine A_take 32 (ls' := #[true, true, true, true, true, true, true, true, true, true, true, true, true, true, true, true, true, true, true, true, true, true, true, true, true, true, true, true, true, true, true, true, true]) (v := (Value.pointer (some ⟨b110_, 0, none⟩))) rfl (by kernel_rfl) (by kernel_rfl) (by kernel_rfl) (by kernel_rfl) (fun _ _ _ h => h) (fun w hS => x_assign rfl) ⟨Holds.rd H112_ 3 rfl, Holds.ro_at H112_ 1 rfl⟩ ?_
    refine A_done (by kernel_rfl) ?_
    refine (X_then (hK7_ _ _ ?_))
    clear hK7_
    refine C_ret ?_
    refine R_any (v := (Value.pointer (some ⟨b110_, 0, none⟩))) (run_results1 rfl rfl) ?_
    have H115_ : Holds w111_ (ro R :: cl b110_ 135 [(Value.slice (some ⟨b94_, 0, none⟩) q.key.size cp95_), (Value.slice a48_ m49_ c50_), (Value.int .i64 q.limit), (Value.int .i64 q.rev), (Value.int .i32 r87_), (Value.int .i32 r102_), (Value.bool q.prev), (Value.bool q.keysOnly), (Value.bool q.countOnly), (Value.int .i64 q.minMod), (Value.int .i64 q.maxMod), (Value.int .i64 q.minCreate), (Value.int .i64 q.maxCreate)] :: F) := (Holds.erase (Holds.erase (Holds.bring (Holds.bring H112_ 0 rfl) 1 rfl) 2) 2)
    exact ⟨_, [cl b110_ 135 [(Value.slice (some ⟨b94_, 0, none⟩) q.key.size cp95_), (Value.slice a48_ m49_ c50_), (Value.int .i64 q.limit), (Value.int .i64 q.rev), (Value.int .i32 r87_), (Value.int .i32 r102_), (Value.bool q.prev), (Value.bool q.keysOnly), (Value.bool q.countOnly), (Value.int .i64 q.minMod), (Value.int .i64 q.maxMod), (Value.int .i64 q.minCreate), (Value.int .i64 q.maxCreate)]], rfl, ⟨b110_, _, rfl, rfl, rfl⟩, S114_, H115_⟩
  refine AllR.cons ?_ AllR.nil
  refine A_op (ls' := #[true, true, false, true, true, true, true, true, true, true, true, true, true, true, true, true, true, true, true, true, true, true, true, true, true, true, true, true, true, true, false, false, false]) rfl (by kernel_rfl) (T_call (al := [(Value.int .i64 q.target)]) (pre := []) (F := cl b2_ 40 [(Value.int .i64 q.kind), (Value.string q.key), (Value.string q.en), (Value.string q.val), (Value.int .i64 q.lease), (Value.int .i64 q.rev), (Value.int .i64 q.limit), (Value.int .i64 q.order), (Value.int .i64 q.target), (Value.int .i64 q.minMod), (Value.int .i64 q.maxMod), (Value.int .i64 q.minCreate), (Value.int .i64 q.maxCreate), (Value.bool q.keysOnly), (Value.bool q.countOnly), (Value.bool q.prev), (Value.bool q.ignValue), (Value.bool q.ignLease), (Value.slice q.cA q.cN q.cC), (Value.slice q.tA q.tN q.tC), (Value.slice q.eA q.eN q.eC)] :: F) rfl rfl cb61 (kOrder R q.target) H89_ ?_)
  rintro v120_ p121_ w117_ ⟨⟨r116_, rfl⟩, rfl⟩ S119_ H118_
  replace H118_ : Holds w117_ (ro R :: cl b2_ 40 [(Value.int .i64 q.kind), (Value.string q.key), (Value.string q.en), (Value.string q.val), (Value.int .i64 q.lease), (Value.int .i64 q.rev), (Value.int .i64 q.limit), (Value.int .i64 q.order), (Value.int .i64 q.target), (Value.int .i64 q.minMod), (Value.int .i64 q.maxMod), (Value.int .i64 q.minCreate), (Value.int .i64 q.maxCreate), (Value.bool q.keysOnly), (Value.bool q.countOnly), (Value.bool q.prev), (Value.bool q.ignValue), (Value.bool q.ignLease), (Value.slice q.cA q.cN q.cC), (Value.slice q.tA q.tN q.tC), (Value.slice q.eA q.eN q.eC)] :: F) := H118_
  have S122_ := Same.trans S93_ S119_
  refine ⟨⟨Holds.rd H118_ 1 rfl, Holds.ro_at H118_ 0 rfl⟩, ?_⟩
  refine A_ready (i := 2) (rs := []) (by kernel_rfl) ?_
  refine AllR.cons ?_ AllR.nil
  refine A_op (ls' := #[true, true, true, true, true, true, true, true, true, true, true, true, true, true, true, true, true, true, true, true, true, true, true, true, true, true, true, true, true, true, false, false, false]) rfl (by kernel_rfl) (T_s2b rfl Try.underlying9 Try.underlying25 Try.underlying5 H118_ ?_)
  intro b123_ cp124_ w125_ S127_ hc128_ H126_
  have S129_ := Same.trans S122_ S127_
  have H130_ : Holds w125_ (sl 5 1 (Value.slice (some ⟨b123_, 0, none⟩) q.key.size cp124_) q.key.size (bytesV (ints q.key)) :: ro R :: cl b2_ 40 [(Value.int .i64 q.kind), (Value.string q.key), (Value.string q.en), (Value.string q.val), (Value.int .i64 q.lease), (Value.int .i64 q.rev), (Value.int .i64 q.limit), (Value.int .i64 q.order), (Value.int .i64 q.target), (Value.int .i64 q.minMod), (Value.int .i64 q.maxMod), (Value.int .i64 q.minCreate), (Value.int .i64 q.maxCreate), (Value.bool q.keysOnly), (Value.bool q.countOnly), (Value.bool q.prev), (Value.bool q.ignValue), (Value.bool q.ignLease), (Value.slice q.cA q.cN q.cC), (Value.slice q.tA q.tN q.tC), (Value.slice q.eA q.eN q.eC)] :: F) := cast2 (P := fun (c__ : List Value) (k__ : Nat) => Holds w125_ (sl 5 1 (Value.slice (some ⟨b123_, 0, none⟩) q.key.size cp124_) k__ c__ :: ro R :: cl b2_ 40 [(Value.int .i64 q.kind), (Value.string q.key), (Value.string q.en), (Value.string q.val), (Value.int .i64 q.lease), (Value.int .i64 q.rev), (Value.int .i64 q.limit), (Value.int .i64 q.order), (Value.int .i64 q.target), (Value.int .i64 q.minMod), (Value.int .i64 q.maxMod), (Value.int .i64 q.minCreate), (Value.int .i64 q.maxCreate), (Value.bool q.keysOnly), (Value.bool q.countOnly), (Value.bool q.prev), (Value.bool q.ignValue), (Value.bool q.ignLease), (Value.slice q.cA q.cN q.cC), (Value.slice q.tA q.tN q.tC), (Value.slice q.eA q.eN q.eC)] :: F)) (byteCells_bytesV _ : byteCells q.key = bytesV (ints q.key)) (rfl : q.key.size = q.key.size) H126_
  refine ⟨⟨Holds.rd H130_ 2 rfl, Holds.ro_at H130_ 1 rfl⟩, ?_⟩
  refine A_take 30 (ls' := #[true, true, true, true, true, true, true, true, true, true, true, true, true, true, true, true, true, true, true, true, true, true, true, true, true, true, true, true, true, true, true, false, false]) (v := (Value.agg #[(Value.slice (some ⟨b123_, 0, none⟩) q.key.size cp124_), (Value.slice a48_ m49_ c50_), (Value.int .i64 q.limit), (Value.int .i64 q.rev), (Value.int .i32 r87_), (Value.int .i32 r116_), (Value.bool q.prev), (Value.bool q.keysOnly), (Value.bool q.countOnly), (Value.int .i64 q.minMod), (Value.int .i64 q.maxMod), (Value.int .i64 q.minCreate), (Value.int .i64 q.maxCreate)])) rfl (by kernel_rfl) (by kernel_rfl) (by kernel_rfl) (by kernel_rfl) (fun _ _ _ h => h) (fun w hS => by kernel_rfl) ⟨Holds.rd H130_ 2 rfl, Holds.ro_at H130_ 1 rfl⟩ ?_
  refine A_ready (i := 31) (rs := []) (by kernel_rfl) ?_
  refine AllR.cons ?_ AllR.nil
  refine A_op (ls' := #[true, true, true, true, true, true, true, true, true, true, true, true, true, true, true, true, true, true, true, true, true, true, true, true, true, true, true, true, true, true, true, true, false]) rfl (by kernel_rfl) (T_box (v := (Value.agg #[(Value.slice (some ⟨b123_, 0, none⟩) q.key.size cp124_), (Value.slice a48_ m49_ c50_), (Value.int .i64 q.limit), (Value.int .i64 q.rev), (Value.int .i32 r87_), (Value.int .i32 r116_), (Value.bool q.prev), (Value.bool q.keysOnly), (Value.bool q.countOnly), (Value.int .i64 q.minMod), (Value.int .i64 q.maxMod), (Value.int .i64 q.minCreate), (Value.int .i64 q.maxCreate)])) rfl H130_ ?_)
  intro b131_ w132_ S134_ H133_
  replace H133_ : Holds w132_ (cl b131_ 135 [(Value.slice (some ⟨b123_, 0, none⟩) q.key.size cp124_), (Value.slice a48_ m49_ c50_), (Value.int .i64 q.limit), (Value.int .i64 q.rev), (Value.int .i32 r87_), (Value.int .i32 r116_), (Value.bool q.prev), (Value.bool q.keysOnly), (Value.bool q.countOnly), (Value.int .i64 q.minMod), (Value.int .i64 q.maxMod), (Value.int .i64 q.minCreate), (Value.int .i64 q.maxCreate)] :: sl 5 1 (Value.slice (some ⟨b123_, 0, none⟩) q.key.size cp124_) q.key.size (bytesV (ints q.key)) :: ro R :: cl b2_ 40 [(Value.int .i64 q.kind), (Value.string q.key), (Value.string q.en), (Value.string q.val), (Value.int .i64 q.lease), (Value.int .i64 q.rev), (Value.int .i64 q.limit), (Value.int .i64 q.order), (Value.int .i64 q.target), (Value.int .i64 q.minMod), (Value.int .i64 q.maxMod), (Value.int .i64 q.minCreate), (Value.int .i64 q.maxCreate), (Value.bool q.keysOnly), (Value.bool q.countOnly), (Value.bool q.prev), (Value.bool q.ignValue), (Value.bool q.ignLease), (Value.slice q.cA q.cN q.cC), (Value.slice q.tA q.tN q.tC), (Value.slice q.eA q.eN q.eC)] :: F) := H133_
  have S135_ := Same.trans S129_ S134_
  refine ⟨⟨Holds.rd H133_ 3 rfl, Holds.ro_at H133_ 2 rfl⟩, ?_⟩
  refine A_take 32 (ls' := #[true, true, true, true, true, true, true, true, true, true, true, true, true, true, true, true, true, true, true, true, true, true, true, true, true, true, true, true, true, true, true, true, true]) (v := (Value.pointer (some ⟨b131_, 0, none⟩))) rfl (by kernel_rfl) (by kernel_rfl) (by kernel_rfl) (by kernel_rfl) (fun _ _ _ h => h) (fun w hS => x_assign rfl) ⟨Holds.rd H133_ 3 rfl, Holds.ro_at H133_ 2 rfl⟩ ?_
  refine A_done (by kernel_rfl) ?_
  refine (X_then (hK7_ _ _ ?_))
  clear hK7_
  refine C_ret ?_
  refine R_any (v := (Value.pointer (some ⟨b131_, 0, none⟩))) (run_results1 rfl rfl) ?_
  have H136_ : Holds w132_ (ro R :: cl b131_ 135 [(Value.slice (some ⟨b123_, 0, none⟩) q.key.size cp124_), (Value.slice a48_ m49_ c50_), (Value.int .i64 q.limit), (Value.int .i64 q.rev), (Value.int .i32 r87_), (Value.int .i32 r116_), (Value.bool q.prev), (Value.bool q.keysOnly), (Value.bool q.countOnly), (Value.int .i64 q.minMod), (Value.int .i64 q.maxMod), (Value.int .i64 q.minCreate), (Value.int .i64 q.maxCreate)] :: F) := (Holds.erase (Holds.erase (Holds.bring (Holds.bring H133_ 0 rfl) 2 rfl) 2) 2)
  exact ⟨_, [cl b131_ 135 [(Value.slice (some ⟨b123_, 0, none⟩) q.key.size cp124_), (Value.slice a48_ m49_ c50_), (Value.int .i64 q.limit), (Value.int .i64 q.rev), (Value.int .i32 r87_), (Value.int .i32 r116_), (Value.bool q.prev), (Value.bool q.keysOnly), (Value.bool q.countOnly), (Value.int .i64 q.minMod), (Value.int .i64 q.maxMod), (Value.int .i64 q.minCreate), (Value.int .i64 q.maxCreate)]], rfl, ⟨b131_, _, rfl, rfl, rfl⟩, S135_, H136_⟩

set_option maxHeartbeats 400000 in
theorem kOpsIn (R : HP) (s : Value) (tt : List ReqS) (hs_ : RS R 21 s tt.length (tt.flatMap ReqS.cells)) (hn : tt.length ≤ 16) (hK : ∀ x ∈ tt, 1 ≤ x.kind ∧ x.kind ≤ 4) (hT : ∀ x ∈ tt, x.kind = 4 → Tri Try.prog 43 #[.agg x.cells.toArray] R [] (fun v post => (∃ b : Nat, v = .pointer (some ⟨b, 0, none⟩)) ∧ post = [])) :
    Tri Try.prog 64 #[s] R [] (fun v post => ∃ (a : Option Addr) (c : Nat) (R1 : HP) (ps : List Value), v = .slice a tt.length c ∧ RS R1 1 v tt.length ps ∧ OpsAt R1 ps tt ∧ post = [ro R1]) := by
  refine Tri.into (n := 77) (al := [s]) Try.func64 rfl Try.ntmps64 rfl rfl fun w F H => ?_
  replace H : Holds w (ro R :: F) := H
  refine C_seq (fun K1_ hK1_ => ?_)
  refine C_reg ?_
  refine S_list (T_val (v := (Value.slice none 0 0)) (x_assign rfl) ?_)
  refine wpList_nil ?_
  refine (X_then (hK1_ _ _ ?_))
  clear hK1_
  refine C_seq (fun K2_ hK2_ => ?_)
  refine C_reg ?_
  refine S_list (T_val (v := (Value.slice none 0 0)) (x_assign rfl) ?_)
  refine wpList_nil ?_
  refine (X_then (hK2_ _ _ ?_))
  clear hK2_
  refine C_seq (fun K3_ hK3_ => ?_)
  refine C_seq (fun K4_ hK4_ => ?_)
  refine C_reg ?_
  refine S_list (T_val (v := (Value.int .i64 0)) (x_assign rfl) ?_)
  refine wpList_nil ?_
  refine (X_then (hK4_ _ _ ?_))
  clear hK4_
  refine C_block ?_
  have H5_ : Holds w (sl 128 1 (.slice none 0 0) 0 [] :: ro R :: F) := Holds.add_nil H 128 1
  have H6_ : Holds w (ro (fun _ => none) :: sl 128 1 (.slice none 0 0) 0 [] :: ro R :: F) := Holds.add_ro H5_
  have H7_ : Holds w (ro R :: sl 128 1 (.slice none 0 0) 0 [] :: ro (fun _ => none) :: F) := (Holds.bring (Holds.bring (Holds.bring H6_ 0 rfl) 1 rfl) 2 rfl)
  refine C_loop (γ := Nat × Value × List Value × HP) (fun x a w1 => match x with | ⟨k, v, ps, R1⟩ => ∃ h : Env, a = mkA 77 (upd (upd (upd h 0 s) 3 v) 4 (Value.int .i64 (k : Int))) [] ∧ Holds w1 (ro R :: sl 128 1 v k ps :: ro R1 :: F) ∧ Same w w1 ∧ (k ≤ tt.length) ∧ (OpsAt R1 ps (tt.take k))) (fun x => match x with | ⟨k, v, ps, R1⟩ => tt.length - k) (⟨0, .slice none 0 0, [], fun _ => none⟩) ⟨_, congrArg (fun e => mkA 77 e []) (ch (ch (ch rfl (by first | rfl | exact congrArg (Value.int _) (by omega))) (by first | rfl | exact congrArg (Value.int _) (by omega))) (by first | rfl | exact congrArg (Value.int _) (by omega))), H7_, (Same.refl w), by simp, OpsAt.nil _⟩ ?_
  rintro ⟨k, v, ps, R1⟩ _ w8_ ⟨h, rfl, H9_, S10_, hk, ho_⟩
  refine C_seq (fun K11_ hK11_ => ?_)
  refine C_seq (fun K12_ hK12_ => ?_)
  refine C_reg ?_
  refine S_list (T_val (v := (Value.int .i64 (k : Int))) (x_move rfl) ?_)
  refine S_list (T_val (v := s) (x_move rfl) ?_)
  refine S_list (T_val (v := (Value.int .i64 (tt.length : Int))) (x_lenRS rfl hs_ Try.underlying38) ?_)
  refine S_list (T_val (v := (Value.bool (decide ((k : Int) < (tt.length : Int))))) (x_bin rfl rfl rfl) ?_)
  refine wpList_nil ?_
  refine (X_then (hK12_ _ _ ?_))
  clear hK12_
  refine C_cond (b := decide ((k : Int) < (tt.length : Int))) rfl (fun c13_t => ?_) (fun c13_f => ?_)
  · have c13_tp : (k : Int) < (tt.length : Int) := of_decide_eq_true c13_t
    refine C_skip (X_then (hK11_ _ _ ?_))
    clear hK11_
    refine C_seq (fun K14_ hK14_ => ?_)
    refine C_block ?_
    refine C_seq (fun K15_ hK15_ => ?_)
    refine C_reg ?_
    refine S_list (T_val (v := s) (x_move rfl) ?_)
    refine S_list (T_val (v := (Value.int .i64 (k : Int))) (x_move rfl) ?_)
    obtain ⟨x16_, hx17_, hm18_⟩ := elem_at tt k (by omega)
    refine S_list (T_val (v := (Value.pointer (some ⟨(sb s), so s + (k * 21 + 0), none⟩))) (x_idxRS (v := s) rfl hs_ rfl Try.underlying38 z40 (by omega) (by omega) (by omega : _ = k) rfl) ?_)
    refine S_list (T_val (v := (Value.pointer (some ⟨(sb s), so s + (k * 21 + 0), none⟩))) (by kernel_rfl) ?_)
    refine S_list (T_val (v := (Value.int .i64 x16_.kind)) (x_load1 rfl Try.underlying3 rfl (RC.cell (RS.rc hs_) (Holds.ro_at H9_ 0 rfl) (j := k * 21 + 0) (u := (Value.int .i64 x16_.kind)) (fm_cell ReqS.len hx17_ (i := 0) rfl))) ?_)
    refine wpList_nil ?_
    refine (X_then (hK15_ _ _ ?_))
    clear hK15_
    refine C_block ?_
    refine C_seq (fun K19_ hK19_ => ?_)
    refine C_reg ?_
    refine S_list (T_val (v := (Value.bool (decide (x16_.kind = 1)))) (x_bin rfl rfl rfl) ?_)
    refine S_list (T_val (v := (Value.bool (decide (x16_.kind = 1)))) (x_assign rfl) ?_)
    refine wpList_nil ?_
    refine (X_then (hK19_ _ _ ?_))
    clear hK19_
    refine C_cond (b := decide (x16_.kind = 1)) rfl (fun c20_t => ?_) (fun c20_f => ?_)
    · have c20_tp : x16_.kind = 1 := of_decide_eq_true c20_t
      refine C_reg ?_
      refine S_list (T_val (v := v) (x_move rfl) ?_)
      refine S_list (T_val (v := s) (x_move rfl) ?_)
      refine S_list (T_val (v := (Value.int .i64 (k : Int))) (x_move rfl) ?_)
      refine S_list (T_val (v := (Value.pointer (some ⟨(sb s), so s + (k * 21 + 0), none⟩))) (x_idxRS (v := s) rfl hs_ rfl Try.underlying38 z40 (by omega) (by omega) (by omega : _ = k) rfl) ?_)
      refine S_list (T_val (v := (Value.agg #[(Value.int .i64 x16_.kind), (Value.string x16_.key), (Value.string x16_.en), (Value.string x16_.val), (Value.int .i64 x16_.lease), (Value.int .i64 x16_.rev), (Value.int .i64 x16_.limit), (Value.int .i64 x16_.order), (Value.int .i64 x16_.target), (Value.int .i64 x16_.minMod), (Value.int .i64 x16_.maxMod), (Value.int .i64 x16_.minCreate), (Value.int .i64 x16_.maxCreate), (Value.bool x16_.keysOnly), (Value.bool x16_.countOnly), (Value.bool x16_.prev), (Value.bool x16_.ignValue), (Value.bool x16_.ignLease), (Value.slice x16_.cA x16_.cN x16_.cC), (Value.slice x16_.tA x16_.tN x16_.tC), (Value.slice x16_.eA x16_.eN x16_.eC)])) (x_loadN (vs := [(Value.int .i64 x16_.kind), (Value.string x16_.key), (Value.string x16_.en), (Value.string x16_.val), (Value.int .i64 x16_.lease), (Value.int .i64 x16_.rev), (Value.int .i64 x16_.limit), (Value.int .i64 x16_.order), (Value.int .i64 x16_.target), (Value.int .i64 x16_.minMod), (Value.int .i64 x16_.maxMod), (Value.int .i64 x16_.minCreate), (Value.int .i64 x16_.maxCreate), (Value.bool x16_.keysOnly), (Value.bool x16_.countOnly), (Value.bool x16_.prev), (Value.bool x16_.ignValue), (Value.bool x16_.ignLease), (Value.slice x16_.cA x16_.cN x16_.cC), (Value.slice x16_.tA x16_.tN x16_.tC), (Value.slice x16_.eA x16_.eN x16_.eC)]) rfl Try.underlying40 rfl z40 rfl (RC.cells (RS.rc hs_) (Holds.ro_at H9_ 0 rfl) (k * 21 + 0) (fm_cells ReqS.len hx17_ (i := 0) rfl))) ?_)
      refine S_list (T_call (al := [(Value.agg #[(Value.int .i64 x16_.kind), (Value.string x16_.key), (Value.string x16_.en), (Value.string x16_.val), (Value.int .i64 x16_.lease), (Value.int .i64 x16_.rev), (Value.int .i64 x16_.limit), (Value.int .i64 x16_.order), (Value.int .i64 x16_.target), (Value.int .i64 x16_.minMod), (Value.int .i64 x16_.maxMod), (Value.int .i64 x16_.minCreate), (Value.int .i64 x16_.maxCreate), (Value.bool x16_.keysOnly), (Value.bool x16_.countOnly), (Value.bool x16_.prev), (Value.bool x16_.ignValue), (Value.bool x16_.ignLease), (Value.slice x16_.cA x16_.cN x16_.cC), (Value.slice x16_.tA x16_.tN x16_.tC), (Value.slice x16_.eA x16_.eN x16_.eC)])]) (pre := []) (F := sl 128 1 v k ps :: ro R1 :: F) rfl rfl cb73 (kRangeIn R x16_) H9_ ?_)
      rintro v27_ p28_ w24_ ⟨b21_, cs22_, rfl, h623_, rfl⟩ S26_ H25_
      replace H25_ : Holds w24_ (ro R :: cl b21_ 135 cs22_ :: sl 128 1 v k ps :: ro R1 :: F) := H25_
      have S29_ := Same.trans S10_ S26_
      refine S_list (T_val (v := (Value.agg #[(Value.pointer (some ⟨b21_, 0, none⟩))])) (by kernel_rfl) ?_)
      refine S_list (T_box (v := (Value.agg #[(Value.pointer (some ⟨b21_, 0, none⟩))])) rfl H25_ ?_)
      intro b30_ w31_ S33_ H32_
      replace H32_ : Holds w31_ (cl b30_ 155 [(Value.pointer (some ⟨b21_, 0, none⟩))] :: ro R :: cl b21_ 135 cs22_ :: sl 128 1 v k ps :: ro R1 :: F) := H32_
      have S34_ := Same.trans S29_ S33_
      refine S_list (T_val (v := (Value.iface 150 (Value.pointer (some ⟨b30_, 0, none⟩)))) (by kernel_rfl) ?_)
      refine S_list (T_val (v := (Value.agg #[(Value.iface 150 (Value.pointer (some ⟨b30_, 0, none⟩)))])) (by kernel_rfl) ?_)
      refine S_list (T_box (v := (Value.agg #[(Value.iface 150 (Value.pointer (some ⟨b30_, 0, none⟩)))])) rfl H32_ ?_)
      intro b35_ w36_ S38_ H37_
      replace H37_ : Holds w36_ (cl b35_ 153 [(Value.iface 150 (Value.pointer (some ⟨b30_, 0, none⟩)))] :: cl b30_ 155 [(Value.pointer (some ⟨b21_, 0, none⟩))] :: ro R :: cl b21_ 135 cs22_ :: sl 128 1 v k ps :: ro R1 :: F) := H37_
      have S39_ := Same.trans S34_ S38_
      refine S_list (T_new (obj := .cells #[(Value.pointer (some ⟨b35_, 0, none⟩))] 128) (f := fun b => .slice (some ⟨b, 0, none⟩) 1 1) (A := fun b => cl b 128 [(Value.pointer (some ⟨b35_, 0, none⟩))]) (by kernel_rfl) (fun l h => h.alloc _ _) H37_ ?_)
      intro b40_ w41_ S43_ H42_
      replace H42_ : Holds w41_ (cl b40_ 128 [(Value.pointer (some ⟨b35_, 0, none⟩))] :: cl b35_ 153 [(Value.iface 150 (Value.pointer (some ⟨b30_, 0, none⟩)))] :: cl b30_ 155 [(Value.pointer (some ⟨b21_, 0, none⟩))] :: ro R :: cl b21_ 135 cs22_ :: sl 128 1 v k ps :: ro R1 :: F) := H42_
      have S44_ := Same.trans S39_ S43_
      refine S_list (T_append rfl rfl Try.underlying125 z128 rfl (by decide) H42_ 5 rfl (Holds.cl_src H42_ 0 rfl Try.underlying125 (by simp [Value.oneCell']) rfl) (by omega) ?_)
      intro v45_ w46_ S48_ H47_
      replace H47_ : Holds w46_ (cl b40_ 128 [(Value.pointer (some ⟨b35_, 0, none⟩))] :: cl b35_ 153 [(Value.iface 150 (Value.pointer (some ⟨b30_, 0, none⟩)))] :: cl b30_ 155 [(Value.pointer (some ⟨b21_, 0, none⟩))] :: ro R :: cl b21_ 135 cs22_ :: sl 128 1 v45_ (k + 1) (ps ++ [(Value.pointer (some ⟨b35_, 0, none⟩))]) :: ro R1 :: F) := H47_
      have S49_ := Same.trans S44_ S48_
      refine S_list (T_val (v := v45_) (x_assign rfl) ?_)
      refine wpList_nil ?_
      refine (X_blkN (X_blkN (X_then (hK14_ _ _ ?_))))
      clear hK14_
      refine C_reg ?_
      refine S_list (T_val (v := (Value.int .i64 (k : Int))) (x_move rfl) ?_)
      refine S_list (T_val (v := (Value.int .i64 ((k : Int) + 1))) (x_bin rfl rfl (ib_add (IntWalk.i64_in _ (by omega)))) ?_)
      refine S_list (T_val (v := (Value.int .i64 ((k : Int) + 1))) (x_assign rfl) ?_)
      refine wpList_nil ?_
      refine (X_then ?_)
      have H53_ : Holds w46_ (ro R1 :: cl b35_ 153 [(Value.iface 150 (Value.pointer (some ⟨b30_, 0, none⟩)))] :: cl b30_ 155 [(Value.pointer (some ⟨b21_, 0, none⟩))] :: cl b21_ 135 cs22_ :: cl b40_ 128 [(Value.pointer (some ⟨b35_, 0, none⟩))] :: ro R :: sl 128 1 v45_ (k + 1) (ps ++ [(Value.pointer (some ⟨b35_, 0, none⟩))]) :: F) := (Holds.bring (Holds.bring (Holds.bring (Holds.bring H47_ 4 rfl) 3 rfl) 3 rfl) 6 rfl)
      obtain ⟨R50_, hs51_, ho52_, H54_⟩ := opRange (x := x16_) (by omega) h623_ H53_
      replace H54_ : Holds w46_ (ro R50_ :: cl b40_ 128 [(Value.pointer (some ⟨b35_, 0, none⟩))] :: ro R :: sl 128 1 v45_ (k + 1) (ps ++ [(Value.pointer (some ⟨b35_, 0, none⟩))]) :: F) := H54_
      have H55_ : Holds w46_ (ro R :: sl 128 1 v45_ (k + 1) (ps ++ [(Value.pointer (some ⟨b35_, 0, none⟩))]) :: ro R50_ :: F) := (Holds.erase (Holds.bring (Holds.bring (Holds.bring H54_ 0 rfl) 3 rfl) 3 rfl) 3)
      exact ⟨⟨k + 1, v45_, ps ++ [(Value.pointer (some ⟨b35_, 0, none⟩))], R50_⟩, ⟨_, congrArg (fun e => mkA 77 e []) (ch (ch (ch rfl (by first | rfl | exact congrArg (Value.int _) (by omega))) (by first | rfl | exact congrArg (Value.int _) (by omega))) (by first | rfl | exact congrArg (Value.int _) (by omega))), H55_, S49_, by omega, OpsAt.snoc ho_ hs51_ hx17_ ho52_⟩, by first | omega | (simp; omega)⟩
    · have c20_fp : ¬ (x16_.kind = 1) := of_decide_eq_false c20_f
      refine C_seq (fun K56_ hK56_ => ?_)
      refine C_reg ?_
      refine S_list (T_val (v := (Value.bool (decide (x16_.kind = 2)))) (x_bin rfl rfl rfl) ?_)
      refine S_list (T_val (v := (Value.bool (decide (x16_.kind = 2)))) (x_assign rfl) ?_)
      refine wpList_nil ?_
      refine (X_then (hK56_ _ _ ?_))
      clear hK56_
      refine C_cond (b := decide (x16_.kind = 2)) rfl (fun c57_t => ?_) (fun c57_f => ?_)
      · have c57_tp : x16_.kind = 2 := of_decide_eq_true c57_t
        refine C_reg ?_
        refine S_list (T_val (v := v) (x_move rfl) ?_)
        refine S_list (T_val (v := s) (x_move rfl) ?_)
        refine S_list (T_val (v := (Value.int .i64 (k : Int))) (x_move rfl) ?_)
        refine S_list (T_val (v := (Value.pointer (some ⟨(sb s), so s + (k * 21 + 0), none⟩))) (x_idxRS (v := s) rfl hs_ rfl Try.underlying38 z40 (by omega) (by omega) (by omega : _ = k) rfl) ?_)
        refine S_list (T_val (v := (Value.agg #[(Value.int .i64 x16_.kind), (Value.string x16_.key), (Value.string x16_.en), (Value.string x16_.val), (Value.int .i64 x16_.lease), (Value.int .i64 x16_.rev), (Value.int .i64 x16_.limit), (Value.int .i64 x16_.order), (Value.int .i64 x16_.target), (Value.int .i64 x16_.minMod), (Value.int .i64 x16_.maxMod), (Value.int .i64 x16_.minCreate), (Value.int .i64 x16_.maxCreate), (Value.bool x16_.keysOnly), (Value.bool x16_.countOnly), (Value.bool x16_.prev), (Value.bool x16_.ignValue), (Value.bool x16_.ignLease), (Value.slice x16_.cA x16_.cN x16_.cC), (Value.slice x16_.tA x16_.tN x16_.tC), (Value.slice x16_.eA x16_.eN x16_.eC)])) (x_loadN (vs := [(Value.int .i64 x16_.kind), (Value.string x16_.key), (Value.string x16_.en), (Value.string x16_.val), (Value.int .i64 x16_.lease), (Value.int .i64 x16_.rev), (Value.int .i64 x16_.limit), (Value.int .i64 x16_.order), (Value.int .i64 x16_.target), (Value.int .i64 x16_.minMod), (Value.int .i64 x16_.maxMod), (Value.int .i64 x16_.minCreate), (Value.int .i64 x16_.maxCreate), (Value.bool x16_.keysOnly), (Value.bool x16_.countOnly), (Value.bool x16_.prev), (Value.bool x16_.ignValue), (Value.bool x16_.ignLease), (Value.slice x16_.cA x16_.cN x16_.cC), (Value.slice x16_.tA x16_.tN x16_.tC), (Value.slice x16_.eA x16_.eN x16_.eC)]) rfl Try.underlying40 rfl z40 rfl (RC.cells (RS.rc hs_) (Holds.ro_at H9_ 0 rfl) (k * 21 + 0) (fm_cells ReqS.len hx17_ (i := 0) rfl))) ?_)
        refine S_list (T_call (al := [(Value.agg #[(Value.int .i64 x16_.kind), (Value.string x16_.key), (Value.string x16_.en), (Value.string x16_.val), (Value.int .i64 x16_.lease), (Value.int .i64 x16_.rev), (Value.int .i64 x16_.limit), (Value.int .i64 x16_.order), (Value.int .i64 x16_.target), (Value.int .i64 x16_.minMod), (Value.int .i64 x16_.maxMod), (Value.int .i64 x16_.minCreate), (Value.int .i64 x16_.maxCreate), (Value.bool x16_.keysOnly), (Value.bool x16_.countOnly), (Value.bool x16_.prev), (Value.bool x16_.ignValue), (Value.bool x16_.ignLease), (Value.slice x16_.cA x16_.cN x16_.cC), (Value.slice x16_.tA x16_.tN x16_.tC), (Value.slice x16_.eA x16_.eN x16_.eC)])]) (pre := []) (F := sl 128 1 v k ps :: ro R1 :: F) rfl rfl cb74 (kPutIn R x16_) H9_ ?_)
        rintro v62_ p63_ w59_ ⟨⟨b58_, rfl⟩, rfl⟩ S61_ H60_
        replace H60_ : Holds w59_ (ro R :: sl 128 1 v k ps :: ro R1 :: F) := H60_
        have S64_ := Same.trans S10_ S61_
        refine S_list (T_val (v := (Value.agg #[(Value.pointer (some ⟨b58_, 0, none⟩))])) (by kernel_rfl) ?_)
        refine S_list (T_box (v := (Value.agg #[(Value.pointer (some ⟨b58_, 0, none⟩))])) rfl H60_ ?_)
        intro b65_ w66_ S68_ H67_
        replace H67_ : Holds w66_ (cl b65_ 161 [(Value.pointer (some ⟨b58_, 0, none⟩))] :: ro R :: sl 128 1 v k ps :: ro R1 :: F) := H67_
        have S69_ := Same.trans S64_ S68_
        refine S_list (T_val (v := (Value.iface 157 (Value.pointer (some ⟨b65_, 0, none⟩)))) (by kernel_rfl) ?_)
        refine S_list (T_val (v := (Value.agg #[(Value.iface 157 (Value.pointer (some ⟨b65_, 0, none⟩)))])) (by kernel_rfl) ?_)
        refine S_list (T_box (v := (Value.agg #[(Value.iface 157 (Value.pointer (some ⟨b65_, 0, none⟩)))])) rfl H67_ ?_)
        intro b70_ w71_ S73_ H72_
        replace H72_ : Holds w71_ (cl b70_ 153 [(Value.iface 157 (Value.pointer (some ⟨b65_, 0, none⟩)))] :: cl b65_ 161 [(Value.pointer (some ⟨b58_, 0, none⟩))] :: ro R :: sl 128 1 v k ps :: ro R1 :: F) := H72_
        have S74_ := Same.trans S69_ S73_
        refine S_list (T_new (obj := .cells #[(Value.pointer (some ⟨b70_, 0, none⟩))] 128) (f := fun b => .slice (some ⟨b, 0, none⟩) 1 1) (A := fun b => cl b 128 [(Value.pointer (some ⟨b70_, 0, none⟩))]) (by kernel_rfl) (fun l h => h.alloc _ _) H72_ ?_)
        intro b75_ w76_ S78_ H77_
        replace H77_ : Holds w76_ (cl b75_ 128 [(Value.pointer (some ⟨b70_, 0, none⟩))] :: cl b70_ 153 [(Value.iface 157 (Value.pointer (some ⟨b65_, 0, none⟩)))] :: cl b65_ 161 [(Value.pointer (some ⟨b58_, 0, none⟩))] :: ro R :: sl 128 1 v k ps :: ro R1 :: F) := H77_
        have S79_ := Same.trans S74_ S78_
        refine S_list (T_append rfl rfl Try.underlying125 z128 rfl (by decide) H77_ 4 rfl (Holds.cl_src H77_ 0 rfl Try.underlying125 (by simp [Value.oneCell']) rfl) (by omega) ?_)
        intro v80_ w81_ S83_ H82_
        replace H82_ : Holds w81_ (cl b75_ 128 [(Value.pointer (some ⟨b70_, 0, none⟩))] :: cl b70_ 153 [(Value.iface 157 (Value.pointer (some ⟨b65_, 0, none⟩)))] :: cl b65_ 161 [(Value.pointer (some ⟨b58_, 0, none⟩))] :: ro R :: sl 128 1 v80_ (k + 1) (ps ++ [(Value.pointer (some ⟨b70_, 0, none⟩))]) :: ro R1 :: F) := H82_
        have S84_ := Same.trans S79_ S83_
        refine S_list (T_val (v := v80_) (x_assign rfl) ?_)
        refine wpList_nil ?_
        refine (X_blkN (X_blkN (X_then (hK14_ _ _ ?_))))
        clear hK14_
        refine C_reg ?_
        refine S_list (T_val (v := (Value.int .i64 (k : Int))) (x_move rfl) ?_)
        refine S_list (T_val (v := (Value.int .i64 ((k : Int) + 1))) (x_bin rfl rfl (ib_add (IntWalk.i64_in _ (by omega)))) ?_)
        refine S_list (T_val (v := (Value.int .i64 ((k : Int) + 1))) (x_assign rfl) ?_)
        refine wpList_nil ?_
        refine (X_then ?_)
        have H88_ : Holds w81_ (ro R1 :: cl b70_ 153 [(Value.iface 157 (Value.pointer (some ⟨b65_, 0, none⟩)))] :: cl b75_ 128 [(Value.pointer (some ⟨b70_, 0, none⟩))] :: cl b65_ 161 [(Value.pointer (some ⟨b58_, 0, none⟩))] :: ro R :: sl 128 1 v80_ (k + 1) (ps ++ [(Value.pointer (some ⟨b70_, 0, none⟩))]) :: F) := (Holds.bring (Holds.bring H82_ 1 rfl) 5 rfl)
        obtain ⟨R85_, hs86_, ho87_, H89_⟩ := opOther (x := x16_) (by omega) ⟨by simp, _, rfl⟩ H88_
        replace H89_ : Holds w81_ (ro R85_ :: cl b75_ 128 [(Value.pointer (some ⟨b70_, 0, none⟩))] :: cl b65_ 161 [(Value.pointer (some ⟨b58_, 0, none⟩))] :: ro R :: sl 128 1 v80_ (k + 1) (ps ++ [(Value.pointer (some ⟨b70_, 0, none⟩))]) :: F) := H89_
        have H90_ : Holds w81_ (ro R :: sl 128 1 v80_ (k + 1) (ps ++ [(Value.pointer (some ⟨b70_, 0, none⟩))]) :: ro R85_ :: F) := (Holds.erase (Holds.erase (Holds.bring (Holds.bring (Holds.bring H89_ 0 rfl) 4 rfl) 4 rfl) 3) 3)
        exact ⟨⟨k + 1, v80_, ps ++ [(Value.pointer (some ⟨b70_, 0, none⟩))], R85_⟩, ⟨_, congrArg (fun e => mkA 77 e []) (ch (ch (ch rfl (by first | rfl | exact congrArg (Value.int _) (by omega))) (by first | rfl | exact congrArg (Value.int _) (by omega))) (by first | rfl | exact congrArg (Value.int _) (by omega))), H90_, S84_, by omega, OpsAt.snoc ho_ hs86_ hx17_ ho87_⟩, by first | omega | (simp; omega)⟩
      · have c57_fp : ¬ (x16_.kind = 2) := of_decide_eq_false c57_f
        refine C_seq (fun K91_ hK91_ => ?_)
        refine C_reg ?_
        refine S_list (T_val (v := (Value.bool (decide (x16_.kind = 3)))) (x_bin rfl rfl rfl) ?_)
        refine S_list (T_val (v := (Value.bool (decide (x16_.kind = 3)))) (x_assign rfl) ?_)
        refine wpList_nil ?_
        refine (X_then (hK91_ _ _ ?_))
        clear hK91_
        refine C_cond (b := decide (x16_.kind = 3)) rfl (fun c92_t => ?_) (fun c92_f => ?_)
        · have c92_tp : x16_.kind = 3 := of_decide_eq_true c92_t
          refine C_reg ?_
          refine S_list (T_val (v := v) (x_move rfl) ?_)
          refine S_list (T_val (v := s) (x_move rfl) ?_)
          refine S_list (T_val (v := (Value.int .i64 (k : Int))) (x_move rfl) ?_)
          refine S_list (T_val (v := (Value.pointer (some ⟨(sb s), so s + (k * 21 + 0), none⟩))) (x_idxRS (v := s) rfl hs_ rfl Try.underlying38 z40 (by omega) (by omega) (by omega : _ = k) rfl) ?_)
          refine S_list (T_val (v := (Value.agg #[(Value.int .i64 x16_.kind), (Value.string x16_.key), (Value.string x16_.en), (Value.string x16_.val), (Value.int .i64 x16_.lease), (Value.int .i64 x16_.rev), (Value.int .i64 x16_.limit), (Value.int .i64 x16_.order), (Value.int .i64 x16_.target), (Value.int .i64 x16_.minMod), (Value.int .i64 x16_.maxMod), (Value.int .i64 x16_.minCreate), (Value.int .i64 x16_.maxCreate), (Value.bool x16_.keysOnly), (Value.bool x16_.countOnly), (Value.bool x16_.prev), (Value.bool x16_.ignValue), (Value.bool x16_.ignLease), (Value.slice x16_.cA x16_.cN x16_.cC), (Value.slice x16_.tA x16_.tN x16_.tC), (Value.slice x16_.eA x16_.eN x16_.eC)])) (x_loadN (vs := [(Value.int .i64 x16_.kind), (Value.string x16_.key), (Value.string x16_.en), (Value.string x16_.val), (Value.int .i64 x16_.lease), (Value.int .i64 x16_.rev), (Value.int .i64 x16_.limit), (Value.int .i64 x16_.order), (Value.int .i64 x16_.target), (Value.int .i64 x16_.minMod), (Value.int .i64 x16_.maxMod), (Value.int .i64 x16_.minCreate), (Value.int .i64 x16_.maxCreate), (Value.bool x16_.keysOnly), (Value.bool x16_.countOnly), (Value.bool x16_.prev), (Value.bool x16_.ignValue), (Value.bool x16_.ignLease), (Value.slice x16_.cA x16_.cN x16_.cC), (Value.slice x16_.tA x16_.tN x16_.tC), (Value.slice x16_.eA x16_.eN x16_.eC)]) rfl Try.underlying40 rfl z40 rfl (RC.cells (RS.rc hs_) (Holds.ro_at H9_ 0 rfl) (k * 21 + 0) (fm_cells ReqS.len hx17_ (i := 0) rfl))) ?_)
          refine S_list (T_call (al := [(Value.agg #[(Value.int .i64 x16_.kind), (Value.string x16_.key), (Value.string x16_.en), (Value.string x16_.val), (Value.int .i64 x16_.lease), (Value.int .i64 x16_.rev), (Value.int .i64 x16_.limit), (Value.int .i64 x16_.order), (Value.int .i64 x16_.target), (Value.int .i64 x16_.minMod), (Value.int .i64 x16_.maxMod), (Value.int .i64 x16_.minCreate), (Value.int .i64 x16_.maxCreate), (Value.bool x16_.keysOnly), (Value.bool x16_.countOnly), (Value.bool x16_.prev), (Value.bool x16_.ignValue), (Value.bool x16_.ignLease), (Value.slice x16_.cA x16_.cN x16_.cC), (Value.slice x16_.tA x16_.tN x16_.tC), (Value.slice x16_.eA x16_.eN x16_.eC)])]) (pre := []) (F := sl 128 1 v k ps :: ro R1 :: F) rfl rfl cb75 (kDeleteIn R x16_) H9_ ?_)
          rintro v97_ p98_ w94_ ⟨⟨b93_, rfl⟩, rfl⟩ S96_ H95_
          replace H95_ : Holds w94_ (ro R :: sl 128 1 v k ps :: ro R1 :: F) := H95_
          have S99_ := Same.trans S10_ S96_
          refine S_list (T_val (v := (Value.agg #[(Value.pointer (some ⟨b93_, 0, none⟩))])) (by kernel_rfl) ?_)
          refine S_list (T_box (v := (Value.agg #[(Value.pointer (some ⟨b93_, 0, none⟩))])) rfl H95_ ?_)
          intro b100_ w101_ S103_ H102_
          replace H102_ : Holds w101_ (cl b100_ 166 [(Value.pointer (some ⟨b93_, 0, none⟩))] :: ro R :: sl 128 1 v k ps :: ro R1 :: F) := H102_
          have S104_ := Same.trans S99_ S103_
          refine S_list (T_val (v := (Value.iface 162 (Value.pointer (some ⟨b100_, 0, none⟩)))) (by kernel_rfl) ?_)
          refine S_list (T_val (v := (Value.agg #[(Value.iface 162 (Value.pointer (some ⟨b100_, 0, none⟩)))])) (by kernel_rfl) ?_)
          refine S_list (T_box (v := (Value.agg #[(Value.iface 162 (Value.pointer (some ⟨b100_, 0, none⟩)))])) rfl H102_ ?_)
          intro b105_ w106_ S108_ H107_
          replace H107_ : Holds w106_ (cl b105_ 153 [(Value.iface 162 (Value.pointer (some ⟨b100_, 0, none⟩)))] :: cl b100_ 166 [(Value.pointer (some ⟨b93_, 0, none⟩))] :: ro R :: sl 128 1 v k ps :: ro R1 :: F) := H107_
          have S109_ := Same.trans S104_ S108_
          refine S_list (T_new (obj := .cells #[(Value.pointer (some ⟨b105_, 0, none⟩))] 128) (f := fun b => .slice (some ⟨b, 0, none⟩) 1 1) (A := fun b => cl b 128 [(Value.pointer (some ⟨b105_, 0, none⟩))]) (by kernel_rfl) (fun l h => h.alloc _ _) H107_ ?_)
          intro b110_ w111_ S113_ H112_
          replace H112_ : Holds w111_ (cl b110_ 128 [(Value.pointer (some ⟨b105_, 0, none⟩))] :: cl b105_ 153 [(Value.iface 162 (Value.pointer (some ⟨b100_, 0, none⟩)))] :: cl b100_ 166 [(Value.pointer (some ⟨b93_, 0, none⟩))] :: ro R :: sl 128 1 v k ps :: ro R1 :: F) := H112_
          have S114_ := Same.trans S109_ S113_
          refine S_list (T_append rfl rfl Try.underlying125 z128 rfl (by decide) H112_ 4 rfl (Holds.cl_src H112_ 0 rfl Try.underlying125 (by simp [Value.oneCell']) rfl) (by omega) ?_)
          intro v115_ w116_ S118_ H117_
          replace H117_ : Holds w116_ (cl b110_ 128 [(Value.pointer (some ⟨b105_, 0, none⟩))] :: cl b105_ 153 [(Value.iface 162 (Value.pointer (some ⟨b100_, 0, none⟩)))] :: cl b100_ 166 [(Value.pointer (some ⟨b93_, 0, none⟩))] :: ro R :: sl 128 1 v115_ (k + 1) (ps ++ [(Value.pointer (some ⟨b105_, 0, none⟩))]) :: ro R1 :: F) := H117_
          have S119_ := Same.trans S114_ S118_
          refine S_list (T_val (v := v115_) (x_assign rfl) ?_)
          refine wpList_nil ?_
          refine (X_blkN (X_blkN (X_then (hK14_ _ _ ?_))))
          clear hK14_
          refine C_reg ?_
          refine S_list (T_val (v := (Value.int .i64 (k : Int))) (x_move rfl) ?_)
          refine S_list (T_val (v := (Value.int .i64 ((k : Int) + 1))) (x_bin rfl rfl (ib_add (IntWalk.i64_in _ (by omega)))) ?_)
          refine S_list (T_val (v := (Value.int .i64 ((k : Int) + 1))) (x_assign rfl) ?_)
          refine wpList_nil ?_
          refine (X_then ?_)
          have H123_ : Holds w116_ (ro R1 :: cl b105_ 153 [(Value.iface 162 (Value.pointer (some ⟨b100_, 0, none⟩)))] :: cl b110_ 128 [(Value.pointer (some ⟨b105_, 0, none⟩))] :: cl b100_ 166 [(Value.pointer (some ⟨b93_, 0, none⟩))] :: ro R :: sl 128 1 v115_ (k + 1) (ps ++ [(Value.pointer (some ⟨b105_, 0, none⟩))]) :: F) := (Holds.bring (Holds.bring H117_ 1 rfl) 5 rfl)
          obtain ⟨R120_, hs121_, ho122_, H124_⟩ := opOther (x := x16_) (by omega) ⟨by simp, _, rfl⟩ H123_
          replace H124_ : Holds w116_ (ro R120_ :: cl b110_ 128 [(Value.pointer (some ⟨b105_, 0, none⟩))] :: cl b100_ 166 [(Value.pointer (some ⟨b93_, 0, none⟩))] :: ro R :: sl 128 1 v115_ (k + 1) (ps ++ [(Value.pointer (some ⟨b105_, 0, none⟩))]) :: F) := H124_
          have H125_ : Holds w116_ (ro R :: sl 128 1 v115_ (k + 1) (ps ++ [(Value.pointer (some ⟨b105_, 0, none⟩))]) :: ro R120_ :: F) := (Holds.erase (Holds.erase (Holds.bring (Holds.bring (Holds.bring H124_ 0 rfl) 4 rfl) 4 rfl) 3) 3)
          exact ⟨⟨k + 1, v115_, ps ++ [(Value.pointer (some ⟨b105_, 0, none⟩))], R120_⟩, ⟨_, congrArg (fun e => mkA 77 e []) (ch (ch (ch rfl (by first | rfl | exact congrArg (Value.int _) (by omega))) (by first | rfl | exact congrArg (Value.int _) (by omega))) (by first | rfl | exact congrArg (Value.int _) (by omega))), H125_, S119_, by omega, OpsAt.snoc ho_ hs121_ hx17_ ho122_⟩, by first | omega | (simp; omega)⟩
        · have c92_fp : ¬ (x16_.kind = 3) := of_decide_eq_false c92_f
          refine C_seq (fun K126_ hK126_ => ?_)
          refine C_reg ?_
          refine S_list (T_val (v := (Value.bool (decide (x16_.kind = 4)))) (x_bin rfl rfl rfl) ?_)
          refine S_list (T_val (v := (Value.bool (decide (x16_.kind = 4)))) (x_assign rfl) ?_)
          refine wpList_nil ?_
          refine (X_then (hK126_ _ _ ?_))
          clear hK126_
          refine C_cond (b := decide (x16_.kind = 4)) rfl (fun c127_t => ?_) (fun c127_f => ?_)
          · have c127_tp : x16_.kind = 4 := of_decide_eq_true c127_t
            refine C_reg ?_
            refine S_list (T_val (v := v) (x_move rfl) ?_)
            refine S_list (T_val (v := s) (x_move rfl) ?_)
            refine S_list (T_val (v := (Value.int .i64 (k : Int))) (x_move rfl) ?_)
            refine S_list (T_val (v := (Value.pointer (some ⟨(sb s), so s + (k * 21 + 0), none⟩))) (x_idxRS (v := s) rfl hs_ rfl Try.underlying38 z40 (by omega) (by omega) (by omega : _ = k) rfl) ?_)
            refine S_list (T_val (v := (Value.agg #[(Value.int .i64 x16_.kind), (Value.string x16_.key), (Value.string x16_.en), (Value.string x16_.val), (Value.int .i64 x16_.lease), (Value.int .i64 x16_.rev), (Value.int .i64 x16_.limit), (Value.int .i64 x16_.order), (Value.int .i64 x16_.target), (Value.int .i64 x16_.minMod), (Value.int .i64 x16_.maxMod), (Value.int .i64 x16_.minCreate), (Value.int .i64 x16_.maxCreate), (Value.bool x16_.keysOnly), (Value.bool x16_.countOnly), (Value.bool x16_.prev), (Value.bool x16_.ignValue), (Value.bool x16_.ignLease), (Value.slice x16_.cA x16_.cN x16_.cC), (Value.slice x16_.tA x16_.tN x16_.tC), (Value.slice x16_.eA x16_.eN x16_.eC)])) (x_loadN (vs := [(Value.int .i64 x16_.kind), (Value.string x16_.key), (Value.string x16_.en), (Value.string x16_.val), (Value.int .i64 x16_.lease), (Value.int .i64 x16_.rev), (Value.int .i64 x16_.limit), (Value.int .i64 x16_.order), (Value.int .i64 x16_.target), (Value.int .i64 x16_.minMod), (Value.int .i64 x16_.maxMod), (Value.int .i64 x16_.minCreate), (Value.int .i64 x16_.maxCreate), (Value.bool x16_.keysOnly), (Value.bool x16_.countOnly), (Value.bool x16_.prev), (Value.bool x16_.ignValue), (Value.bool x16_.ignLease), (Value.slice x16_.cA x16_.cN x16_.cC), (Value.slice x16_.tA x16_.tN x16_.tC), (Value.slice x16_.eA x16_.eN x16_.eC)]) rfl Try.underlying40 rfl z40 rfl (RC.cells (RS.rc hs_) (Holds.ro_at H9_ 0 rfl) (k * 21 + 0) (fm_cells ReqS.len hx17_ (i := 0) rfl))) ?_)
            refine S_list (T_call (al := [(Value.agg #[(Value.int .i64 x16_.kind), (Value.string x16_.key), (Value.string x16_.en), (Value.string x16_.val), (Value.int .i64 x16_.lease), (Value.int .i64 x16_.rev), (Value.int .i64 x16_.limit), (Value.int .i64 x16_.order), (Value.int .i64 x16_.target), (Value.int .i64 x16_.minMod), (Value.int .i64 x16_.maxMod), (Value.int .i64 x16_.minCreate), (Value.int .i64 x16_.maxCreate), (Value.bool x16_.keysOnly), (Value.bool x16_.countOnly), (Value.bool x16_.prev), (Value.bool x16_.ignValue), (Value.bool x16_.ignLease), (Value.slice x16_.cA x16_.cN x16_.cC), (Value.slice x16_.tA x16_.tN x16_.tC), (Value.slice x16_.eA x16_.eN x16_.eC)])]) (pre := []) (F := sl 128 1 v k ps :: ro R1 :: F) rfl rfl cb43 (hT x16_ hm18_ (by omega)) H9_ ?_)
            rintro v133_ p134_ w130_ ⟨⟨b128_, rfl⟩, rfl⟩ S132_ H131_
            replace H131_ : Holds w130_ (ro R :: sl 128 1 v k ps :: ro R1 :: F) := H131_
            have S135_ := Same.trans S10_ S132_
            refine S_list (T_val (v := (Value.agg #[(Value.pointer (some ⟨b128_, 0, none⟩))])) (by kernel_rfl) ?_)
            refine S_list (T_box (v := (Value.agg #[(Value.pointer (some ⟨b128_, 0, none⟩))])) rfl H131_ ?_)
            intro b136_ w137_ S139_ H138_
            replace H138_ : Holds w137_ (cl b136_ 169 [(Value.pointer (some ⟨b128_, 0, none⟩))] :: ro R :: sl 128 1 v k ps :: ro R1 :: F) := H138_
            have S140_ := Same.trans S135_ S139_
            refine S_list (T_val (v := (Value.iface 167 (Value.pointer (some ⟨b136_, 0, none⟩)))) (by kernel_rfl) ?_)
            refine S_list (T_val (v := (Value.agg #[(Value.iface 167 (Value.pointer (some ⟨b136_, 0, none⟩)))])) (by kernel_rfl) ?_)
            refine S_list (T_box (v := (Value.agg #[(Value.iface 167 (Value.pointer (some ⟨b136_, 0, none⟩)))])) rfl H138_ ?_)
            intro b141_ w142_ S144_ H143_
            replace H143_ : Holds w142_ (cl b141_ 153 [(Value.iface 167 (Value.pointer (some ⟨b136_, 0, none⟩)))] :: cl b136_ 169 [(Value.pointer (some ⟨b128_, 0, none⟩))] :: ro R :: sl 128 1 v k ps :: ro R1 :: F) := H143_
            have S145_ := Same.trans S140_ S144_
            refine S_list (T_new (obj := .cells #[(Value.pointer (some ⟨b141_, 0, none⟩))] 128) (f := fun b => .slice (some ⟨b, 0, none⟩) 1 1) (A := fun b => cl b 128 [(Value.pointer (some ⟨b141_, 0, none⟩))]) (by kernel_rfl) (fun l h => h.alloc _ _) H143_ ?_)
            intro b146_ w147_ S149_ H148_
            replace H148_ : Holds w147_ (cl b146_ 128 [(Value.pointer (some ⟨b141_, 0, none⟩))] :: cl b141_ 153 [(Value.iface 167 (Value.pointer (some ⟨b136_, 0, none⟩)))] :: cl b136_ 169 [(Value.pointer (some ⟨b128_, 0, none⟩))] :: ro R :: sl 128 1 v k ps :: ro R1 :: F) := H148_
            have S150_ := Same.trans S145_ S149_
            refine S_list (T_append rfl rfl Try.underlying125 z128 rfl (by decide) H148_ 4 rfl (Holds.cl_src H148_ 0 rfl Try.underlying125 (by simp [Value.oneCell']) rfl) (by omega) ?_)
            intro v151_ w152_ S154_ H153_
            replace H153_ : Holds w152_ (cl b146_ 128 [(Value.pointer (some ⟨b141_, 0, none⟩))] :: cl b141_ 153 [(Value.iface 167 (Value.pointer (some ⟨b136_, 0, none⟩)))] :: cl b136_ 169 [(Value.pointer (some ⟨b128_, 0, none⟩))] :: ro R :: sl 128 1 v151_ (k + 1) (ps ++ [(Value.pointer (some ⟨b141_, 0, none⟩))]) :: ro R1 :: F) := H153_
            have S155_ := Same.trans S150_ S154_
            refine S_list (T_val (v := v151_) (x_assign rfl) ?_)
            refine wpList_nil ?_
            refine (X_blkN (X_blkN (X_then (hK14_ _ _ ?_))))
            clear hK14_
            refine C_reg ?_
            refine S_list (T_val (v := (Value.int .i64 (k : Int))) (x_move rfl) ?_)
            refine S_list (T_val (v := (Value.int .i64 ((k : Int) + 1))) (x_bin rfl rfl (ib_add (IntWalk.i64_in _ (by omega)))) ?_)
            refine S_list (T_val (v := (Value.int .i64 ((k : Int) + 1))) (x_assign rfl) ?_)
            refine wpList_nil ?_
            refine (X_then ?_)
            have H159_ : Holds w152_ (ro R1 :: cl b141_ 153 [(Value.iface 167 (Value.pointer (some ⟨b136_, 0, none⟩)))] :: cl b146_ 128 [(Value.pointer (some ⟨b141_, 0, none⟩))] :: cl b136_ 169 [(Value.pointer (some ⟨b128_, 0, none⟩))] :: ro R :: sl 128 1 v151_ (k + 1) (ps ++ [(Value.pointer (some ⟨b141_, 0, none⟩))]) :: F) := (Holds.bring (Holds.bring H153_ 1 rfl) 5 rfl)
            obtain ⟨R156_, hs157_, ho158_, H160_⟩ := opOther (x := x16_) (by omega) ⟨by simp, _, rfl⟩ H159_
            replace H160_ : Holds w152_ (ro R156_ :: cl b146_ 128 [(Value.pointer (some ⟨b141_, 0, none⟩))] :: cl b136_ 169 [(Value.pointer (some ⟨b128_, 0, none⟩))] :: ro R :: sl 128 1 v151_ (k + 1) (ps ++ [(Value.pointer (some ⟨b141_, 0, none⟩))]) :: F) := H160_
            have H161_ : Holds w152_ (ro R :: sl 128 1 v151_ (k + 1) (ps ++ [(Value.pointer (some ⟨b141_, 0, none⟩))]) :: ro R156_ :: F) := (Holds.erase (Holds.erase (Holds.bring (Holds.bring (Holds.bring H160_ 0 rfl) 4 rfl) 4 rfl) 3) 3)
            exact ⟨⟨k + 1, v151_, ps ++ [(Value.pointer (some ⟨b141_, 0, none⟩))], R156_⟩, ⟨_, congrArg (fun e => mkA 77 e []) (ch (ch (ch rfl (by first | rfl | exact congrArg (Value.int _) (by omega))) (by first | rfl | exact congrArg (Value.int _) (by omega))) (by first | rfl | exact congrArg (Value.int _) (by omega))), H161_, S155_, by omega, OpsAt.snoc ho_ hs157_ hx17_ ho158_⟩, by first | omega | (simp; omega)⟩
          · have c127_fp : ¬ (x16_.kind = 4) := of_decide_eq_false c127_f
            have := hK _ hm18_; omega
  · have c13_fp : ¬ ((k : Int) < (tt.length : Int)) := of_decide_eq_false c13_f
    refine C_exit (X_thenX (X_thenX (X_blkHit ?_)))
    refine (X_then (hK3_ _ _ ?_))
    clear hK3_
    refine C_seq (fun K162_ hK162_ => ?_)
    refine C_reg ?_
    refine S_list (T_val (v := v) (x_move rfl) ?_)
    refine S_list (T_val (v := v) (x_assign rfl) ?_)
    refine wpList_nil ?_
    refine (X_then (hK162_ _ _ ?_))
    clear hK162_
    refine C_ret ?_
    refine R_any (v := v) (run_results1 rfl rfl) ?_
    have H166_ : Holds w8_ (ro R1 :: sl 128 1 v k ps :: ro R :: F) := (Holds.bring (Holds.bring H9_ 1 rfl) 2 rfl)
    obtain ⟨R163_, hs167_, ⟨R168_, ha169_, hs170_⟩, H164_⟩ := Holds.gift H166_
    obtain rfl : k = tt.length := by omega
    rw [List.take_length] at ho_
    obtain ⟨a171_, c172_, rfl, -⟩ := RS.len (sl_RS ha169_ (Sub.rfl' _))
    have H173_ : Holds w8_ (ro R :: ro R163_ :: F) := (Holds.bring (Holds.bring H164_ 0 rfl) 1 rfl)
    exact ⟨_, [ro R163_], rfl, ⟨a171_, c172_, _, ps, rfl, (sl_RS ha169_ (Sub.rfl' _)).mono hs170_, ho_.mono hs167_, rfl⟩, S10_, H173_⟩
end Go.Proofs.Ytfdnfnjmphjdnaa
