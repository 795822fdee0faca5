/- What the functions over compares come to: the package's compare. -/
import Derived.Test.YtfdnfnjmphjdnaaTxB0
set_option linter.unusedVariables false
set_option linter.unusedSimpArgs false
namespace Go.Proofs.Ytfdnfnjmphjdnaa
open Go Go.RowKit Gw

set_option maxHeartbeats 400000 in
theorem cmpIn3t (R : HP) (r : Int) (key en : ByteArray) (n : Int) (val : ByteArray) (h0 : 0 ≤ r) (h1 : r ≤ 3) :
    Tri Try.prog 36 #[(Value.agg #[(Value.int .i64 3), (Value.int .i64 r), (Value.string key), (Value.string en), (Value.int .i64 n), (Value.string val), (Value.bool true)])] R [] (fun v post => ∃ c K E, v = .pointer (some ⟨c, 0, none⟩) ∧ post = [cl c 106 [.int .i32 r, .int .i32 3, K, .nilIface, E]]) := by
  refine Tri.into (n := 75) (al := [(Value.agg #[(Value.int .i64 3), (Value.int .i64 r), (Value.string key), (Value.string en), (Value.int .i64 n), (Value.string val), (Value.bool true)])]) Try.func36 rfl Try.ntmps36 rfl rfl fun w F H => ?_
  replace H : Holds w (ro R :: F) := H
  refine C_seq (fun K1_ hK1_ => ?_)
  refine C_reg ?_
  refine S_list (T_box (v := (Value.agg #[(Value.int .i64 3), (Value.int .i64 r), (Value.string key), (Value.string en), (Value.int .i64 n), (Value.string val), (Value.bool true)])) rfl H ?_)
  intro b2_ w3_ S5_ H4_
  replace H4_ : Holds w3_ (cl b2_ 31 [(Value.int .i64 3), (Value.int .i64 r), (Value.string key), (Value.string en), (Value.int .i64 n), (Value.string val), (Value.bool true)] :: ro R :: F) := H4_
  have S6_ := Same.trans (Same.refl w) S5_
  refine S_list (T_val (v := (Value.pointer none)) (x_assign rfl) ?_)
  refine wpList_nil ?_
  refine (X_then (hK1_ _ _ ?_))
  clear hK1_
  refine C_seq (fun K7_ hK7_ => ?_)
  refine A_start (S := fun w => Rd b2_ [(Value.int .i64 3), (Value.int .i64 r), (Value.string key), (Value.string en), (Value.int .i64 n), (Value.string val), (Value.bool true)] w ∧ Sub R (hp w)) (N := 15) foll rfl rfl ?_
  have H9_ : Holds w3_.drew (cl b2_ 31 [(Value.int .i64 3), (Value.int .i64 r), (Value.string key), (Value.string en), (Value.int .i64 n), (Value.string val), (Value.bool true)] :: ro R :: F) := H4_
  refine A_take 0 (ls' := #[true, false, false, false, false, false, false, false, false, false, false, false, false, false, false]) (v := (Value.pointer (some ⟨b2_, 1, none⟩))) rfl (by kernel_rfl) (by kernel_rfl) (by kernel_rfl) (by kernel_rfl) (fun _ _ _ h => h) (fun w hS => by kernel_rfl) ⟨Holds.rd H9_ 0 rfl, Holds.ro_at H9_ 1 rfl⟩ ?_
  refine A_take 1 (ls' := #[true, true, false, false, false, false, false, false, false, false, false, false, false, false, false]) (v := (Value.int .i64 r)) rfl (by kernel_rfl) (by kernel_rfl) (by kernel_rfl) (by kernel_rfl) (fun _ _ _ h => h) (fun w hS => x_load1 rfl Try.underlying3 rfl (hS.1 1 (Value.int .i64 r) rfl)) ⟨Holds.rd H9_ 0 rfl, Holds.ro_at H9_ 1 rfl⟩ ?_
  refine A_take 3 (ls' := #[true, true, false, true, false, false, false, false, false, false, false, false, false, false, false]) (v := (Value.pointer (some ⟨b2_, 0, none⟩))) rfl (by kernel_rfl) (by kernel_rfl) (by kernel_rfl) (by kernel_rfl) (fun _ _ _ h => h) (fun w hS => by kernel_rfl) ⟨Holds.rd H9_ 0 rfl, Holds.ro_at H9_ 1 rfl⟩ ?_
  refine A_take 4 (ls' := #[true, true, false, true, true, false, false, false, false, false, false, false, false, false, false]) (v := (Value.int .i64 3)) rfl (by kernel_rfl) (by kernel_rfl) (by kernel_rfl) (by kernel_rfl) (fun _ _ _ h => h) (fun w hS => x_load1 rfl Try.underlying3 rfl (hS.1 0 (Value.int .i64 3) rfl)) ⟨Holds.rd H9_ 0 rfl, Holds.ro_at H9_ 1 rfl⟩ ?_
  refine A_take 6 (ls' := #[true, true, false, true, true, false, true, false, false, false, false, false, false, false, false]) (v := (Value.pointer (some ⟨b2_, 2, none⟩))) rfl (by kernel_rfl) (by kernel_rfl) (by kernel_rfl) (by kernel_rfl) (fun _ _ _ h => h) (fun w hS => by kernel_rfl) ⟨Holds.rd H9_ 0 rfl, Holds.ro_at H9_ 1 rfl⟩ ?_
  refine A_take 7 (ls' := #[true, true, false, true, true, false, true, true, false, false, false, false, false, false, false]) (v := (Value.string key)) rfl (by kernel_rfl) (by kernel_rfl) (by kernel_rfl) (by kernel_rfl) (fun _ _ _ h => h) (fun w hS => x_load1 rfl Try.underlying9 rfl (hS.1 2 (Value.string key) rfl)) ⟨Holds.rd H9_ 0 rfl, Holds.ro_at H9_ 1 rfl⟩ ?_
  refine A_take 9 (ls' := #[true, true, false, true, true, false, true, true, false, true, false, false, false, false, false]) (v := (Value.pointer (some ⟨b2_, 3, none⟩))) rfl (by kernel_rfl) (by kernel_rfl) (by kernel_rfl) (by kernel_rfl) (fun _ _ _ h => h) (fun w hS => by kernel_rfl) ⟨Holds.rd H9_ 0 rfl, Holds.ro_at H9_ 1 rfl⟩ ?_
  refine A_take 10 (ls' := #[true, true, false, true, true, false, true, true, false, true, true, false, false, false, false]) (v := (Value.string en)) rfl (by kernel_rfl) (by kernel_rfl) (by kernel_rfl) (by kernel_rfl) (fun _ _ _ h => h) (fun w hS => x_load1 rfl Try.underlying9 rfl (hS.1 3 (Value.string en) rfl)) ⟨Holds.rd H9_ 0 rfl, Holds.ro_at H9_ 1 rfl⟩ ?_
  refine A_ready (i := 2) (rs := [8]) (by kernel_rfl) ?_
  refine AllR.cons ?_ ?_
  · skip
    have H10_ : Holds w3_.drew (ro R :: cl b2_ 31 [(Value.int .i64 3), (Value.int .i64 r), (Value.string key), (Value.string en), (Value.int .i64 n), (Value.string val), (Value.bool true)] :: F) := (Holds.bring H9_ 1 rfl)
    refine A_op (ls' := #[true, true, true, true, true, false, true, true, false, true, true, false, false, false, false]) rfl (by kernel_rfl) (T_call (al := [(Value.int .i64 r)]) (pre := []) (F := cl b2_ 31 [(Value.int .i64 3), (Value.int .i64 r), (Value.string key), (Value.string en), (Value.int .i64 n), (Value.string val), (Value.bool true)] :: F) rfl rfl cb61 (ordSmall R r (by omega) (by omega)) H10_ ?_)
    rintro v14_ p15_ w11_ ⟨rfl, rfl⟩ S13_ H12_
    replace H12_ : Holds w11_ (ro R :: cl b2_ 31 [(Value.int .i64 3), (Value.int .i64 r), (Value.string key), (Value.string en), (Value.int .i64 n), (Value.string val), (Value.bool true)] :: F) := H12_
    have S16_ := Same.trans (Same.trans S6_ (Same.drew _)) S13_
    refine ⟨⟨Holds.rd H12_ 1 rfl, Holds.ro_at H12_ 0 rfl⟩, ?_⟩
    refine A_ready (i := 5) (rs := [8]) (by kernel_rfl) ?_
    refine AllR.cons ?_ ?_
    · skip
      refine A_op (ls' := #[true, true, true, true, true, true, true, true, false, true, true, false, false, false, false]) rfl (by kernel_rfl) (T_call (al := [(Value.int .i64 3)]) (pre := []) (F := cl b2_ 31 [(Value.int .i64 3), (Value.int .i64 r), (Value.string key), (Value.string en), (Value.int .i64 n), (Value.string val), (Value.bool true)] :: F) rfl rfl cb61 (ordSmall R 3 (by omega) (by omega)) H12_ ?_)
      rintro v20_ p21_ w17_ ⟨rfl, rfl⟩ S19_ H18_
      replace H18_ : Holds w17_ (ro R :: cl b2_ 31 [(Value.int .i64 3), (Value.int .i64 r), (Value.string key), (Value.string en), (Value.int .i64 n), (Value.string val), (Value.bool true)] :: F) := H18_
      have S22_ := Same.trans S16_ S19_
      refine ⟨⟨Holds.rd H18_ 1 rfl, Holds.ro_at H18_ 0 rfl⟩, ?_⟩
      refine A_ready (i := 8) (rs := [11]) (by kernel_rfl) ?_
      refine AllR.cons ?_ ?_
      · skip
        refine A_op (ls' := #[true, true, true, true, true, true, true, true, true, true, true, false, false, false, false]) rfl (by kernel_rfl) (T_s2b rfl Try.underlying9 Try.underlying25 Try.underlying5 H18_ ?_)
        intro b23_ cp24_ w25_ S27_ hc28_ H26_
        have S29_ := Same.trans S22_ S27_
        have H30_ : Holds w25_ (sl 5 1 (Value.slice (some ⟨b23_, 0, none⟩) key.size cp24_) key.size (bytesV (ints key)) :: ro R :: cl b2_ 31 [(Value.int .i64 3), (Value.int .i64 r), (Value.string key), (Value.string en), (Value.int .i64 n), (Value.string val), (Value.bool true)] :: F) := cast2 (P := fun (c__ : List Value) (k__ : Nat) => Holds w25_ (sl 5 1 (Value.slice (some ⟨b23_, 0, none⟩) key.size cp24_) k__ c__ :: ro R :: cl b2_ 31 [(Value.int .i64 3), (Value.int .i64 r), (Value.string key), (Value.string en), (Value.int .i64 n), (Value.string val), (Value.bool true)] :: F)) (byteCells_bytesV _ : byteCells key = bytesV (ints key)) (rfl : key.size = key.size) H26_
        refine ⟨⟨Holds.rd H30_ 2 rfl, Holds.ro_at H30_ 1 rfl⟩, ?_⟩
        refine A_ready (i := 11) (rs := []) (by kernel_rfl) ?_
        refine AllR.cons ?_ AllR.nil
        have H31_ : Holds w25_ (ro R :: sl 5 1 (Value.slice (some ⟨b23_, 0, none⟩) key.size cp24_) key.size (bytesV (ints key)) :: cl b2_ 31 [(Value.int .i64 3), (Value.int .i64 r), (Value.string key), (Value.string en), (Value.int .i64 n), (Value.string val), (Value.bool true)] :: F) := (Holds.bring H30_ 1 rfl)
        refine A_op (ls' := #[true, true, true, true, true, true, true, true, true, true, true, true, false, false, false]) rfl (by kernel_rfl) (T_call (al := [(Value.string en)]) (pre := []) (F := sl 5 1 (Value.slice (some ⟨b23_, 0, none⟩) key.size cp24_) key.size (bytesV (ints key)) :: cl b2_ 31 [(Value.int .i64 3), (Value.int .i64 r), (Value.string key), (Value.string en), (Value.int .i64 n), (Value.string val), (Value.bool true)] :: F) rfl rfl cb62 (bytesOfC R en) H31_ ?_)
        rintro v35_ p36_ w32_ rfl S34_ H33_
        replace H33_ : Holds w32_ (ro R :: sl 5 1 v35_ en.size (bytesV (ints en)) :: sl 5 1 (Value.slice (some ⟨b23_, 0, none⟩) key.size cp24_) key.size (bytesV (ints key)) :: cl b2_ 31 [(Value.int .i64 3), (Value.int .i64 r), (Value.string key), (Value.string en), (Value.int .i64 n), (Value.string val), (Value.bool true)] :: F) := H33_
        have S37_ := Same.trans S29_ S34_
        obtain ⟨-, a38_, cp39_, rfl, hle40_⟩ := Holds.sl_len H33_ 1 rfl
        refine ⟨⟨Holds.rd H33_ 3 rfl, Holds.ro_at H33_ 0 rfl⟩, ?_⟩
        refine A_take 12 (ls' := #[true, true, true, true, true, true, true, true, true, true, true, true, true, false, false]) (v := (Value.agg #[(Value.int .i32 r), (Value.int .i32 3), (Value.slice (some ⟨b23_, 0, none⟩) key.size cp24_), (Value.nilIface), (Value.slice a38_ en.size cp39_)])) rfl (by kernel_rfl) (by kernel_rfl) (by kernel_rfl) (by kernel_rfl) (fun _ _ _ h => h) (fun w hS => by kernel_rfl) ⟨Holds.rd H33_ 3 rfl, Holds.ro_at H33_ 0 rfl⟩ ?_
        refine A_ready (i := 13) (rs := []) (by kernel_rfl) ?_
        refine AllR.cons ?_ AllR.nil
        refine A_op (ls' := #[true, true, true, true, true, true, true, true, true, true, true, true, true, true, false]) rfl (by kernel_rfl) (T_box (v := (Value.agg #[(Value.int .i32 r), (Value.int .i32 3), (Value.slice (some ⟨b23_, 0, none⟩) key.size cp24_), (Value.nilIface), (Value.slice a38_ en.size cp39_)])) rfl H33_ ?_)
        intro b41_ w42_ S44_ H43_
        replace H43_ : Holds w42_ (cl b41_ 106 [(Value.int .i32 r), (Value.int .i32 3), (Value.slice (some ⟨b23_, 0, none⟩) key.size cp24_), (Value.nilIface), (Value.slice a38_ en.size cp39_)] :: ro R :: sl 5 1 (Value.slice a38_ en.size cp39_) en.size (bytesV (ints en)) :: sl 5 1 (Value.slice (some ⟨b23_, 0, none⟩) key.size cp24_) key.size (bytesV (ints key)) :: cl b2_ 31 [(Value.int .i64 3), (Value.int .i64 r), (Value.string key), (Value.string en), (Value.int .i64 n), (Value.string val), (Value.bool true)] :: F) := H43_
        have S45_ := Same.trans S37_ S44_
        refine ⟨⟨Holds.rd H43_ 4 rfl, Holds.ro_at H43_ 1 rfl⟩, ?_⟩
        refine A_take 14 (ls' := #[true, true, true, true, true, true, true, true, true, true, true, true, true, true, true]) (v := (Value.pointer (some ⟨b41_, 0, none⟩))) rfl (by kernel_rfl) (by kernel_rfl) (by kernel_rfl) (by kernel_rfl) (fun _ _ _ h => h) (fun w hS => x_assign rfl) ⟨Holds.rd H43_ 4 rfl, Holds.ro_at H43_ 1 rfl⟩ ?_
        refine A_done (by kernel_rfl) ?_
        refine (X_then (hK7_ _ _ ?_))
        clear hK7_
        refine C_seq (fun K46_ hK46_ => ?_)
        refine C_seq (fun K47_ hK47_ => ?_)
        refine C_reg ?_
        refine S_list (T_val (v := (Value.pointer (some ⟨b2_, 6, none⟩))) (by kernel_rfl) ?_)
        refine S_list (T_val (v := (Value.bool true)) (x_load1 rfl Try.underlying4 rfl ((Holds.rd H43_ 4 rfl) 6 (Value.bool true) rfl)) ?_)
        refine wpList_nil ?_
        refine (X_then (hK47_ _ _ ?_))
        clear hK47_
        refine C_condT rfl ?_
        refine C_seq (fun K48_ hK48_ => ?_)
        refine C_reg ?_
        refine S_list (T_val (v := (Value.pointer (some ⟨b41_, 0, none⟩))) (x_move rfl) ?_)
        refine S_list (T_val (v := (Value.pointer (some ⟨b41_, 0, none⟩))) (x_assign rfl) ?_)
        refine wpList_nil ?_
        refine (X_then (hK48_ _ _ ?_))
        clear hK48_
        refine C_ret (X_thenR ?_)
        refine R_any (v := (Value.pointer (some ⟨b41_, 0, none⟩))) (run_results1 rfl rfl) ?_
        have H49_ : Holds w42_ (ro R :: cl b41_ 106 [(Value.int .i32 r), (Value.int .i32 3), (Value.slice (some ⟨b23_, 0, none⟩) key.size cp24_), (Value.nilIface), (Value.slice a38_ en.size cp39_)] :: F) := (Holds.erase (Holds.erase (Holds.erase (Holds.bring (Holds.bring H43_ 0 rfl) 1 rfl) 2) 2) 2)
        exact ⟨_, [cl b41_ 106 [(Value.int .i32 r), (Value.int .i32 3), (Value.slice (some ⟨b23_, 0, none⟩) key.size cp24_), (Value.nilIface), (Value.slice a38_ en.size cp39_)]], rfl, ⟨b41_, (Value.slice (some ⟨b23_, 0, none⟩) key.size cp24_), (Value.slice a38_ en.size cp39_), rfl, rfl⟩, S45_, H49_⟩
      refine AllR.cons ?_ AllR.nil
      refine A_op (ls' := #[true, true, true, true, true, true, true, true, false, true, true, true, false, false, false]) rfl (by kernel_rfl) (T_call (al := [(Value.string en)]) (pre := []) (F := cl b2_ 31 [(Value.int .i64 3), (Value.int .i64 r), (Value.string key), (Value.string en), (Value.int .i64 n), (Value.string val), (Value.bool true)] :: F) rfl rfl cb62 (bytesOfC R en) H18_ ?_)
      rintro v53_ p54_ w50_ rfl S52_ H51_
      replace H51_ : Holds w50_ (ro R :: sl 5 1 v53_ en.size (bytesV (ints en)) :: cl b2_ 31 [(Value.int .i64 3), (Value.int .i64 r), (Value.string key), (Value.string en), (Value.int .i64 n), (Value.string val), (Value.bool true)] :: F) := H51_
      have S55_ := Same.trans S22_ S52_
      obtain ⟨-, a56_, cp57_, rfl, hle58_⟩ := Holds.sl_len H51_ 1 rfl
      refine ⟨⟨Holds.rd H51_ 2 rfl, Holds.ro_at H51_ 0 rfl⟩, ?_⟩
      refine A_ready (i := 8) (rs := []) (by kernel_rfl) ?_
      refine AllR.cons ?_ AllR.nil
      refine A_op (ls' := #[true, true, true, true, true, true, true, true, true, true, true, true, false, false, false]) rfl (by kernel_rfl) (T_s2b rfl Try.underlying9 Try.underlying25 Try.underlying5 H51_ ?_)
      intro b59_ cp60_ w61_ S63_ hc64_ H62_
      have S65_ := Same.trans S55_ S63_
      have H66_ : Holds w61_ (sl 5 1 (Value.slice (some ⟨b59_, 0, none⟩) key.size cp60_) key.size (bytesV (ints key)) :: ro R :: sl 5 1 (Value.slice a56_ en.size cp57_) en.size (bytesV (ints en)) :: cl b2_ 31 [(Value.int .i64 3), (Value.int .i64 r), (Value.string key), (Value.string en), (Value.int .i64 n), (Value.string val), (Value.bool true)] :: F) := cast2 (P := fun (c__ : List Value) (k__ : Nat) => Holds w61_ (sl 5 1 (Value.slice (some ⟨b59_, 0, none⟩) key.size cp60_) k__ c__ :: ro R :: sl 5 1 (Value.slice a56_ en.size cp57_) en.size (bytesV (ints en)) :: cl b2_ 31 [(Value.int .i64 3), (Value.int .i64 r), (Value.string key), (Value.string en), (Value.int .i64 n), (Value.string val), (Value.bool true)] :: F)) (byteCells_bytesV _ : byteCells key = bytesV (ints key)) (rfl : key.size = key.size) H62_
      refine ⟨⟨Holds.rd H66_ 3 rfl, Holds.ro_at H66_ 1 rfl⟩, ?_⟩
      refine A_take 12 (ls' := #[true, true, true, true, true, true, true, true, true, true, true, true, true, false, false]) (v := (Value.agg #[(Value.int .i32 r), (Value.int .i32 3), (Value.slice (some ⟨b59_, 0, none⟩) key.size cp60_), (Value.nilIface), (Value.slice a56_ en.size cp57_)])) rfl (by kernel_rfl) (by kernel_rfl) (by kernel_rfl) (by kernel_rfl) (fun _ _ _ h => h) (fun w hS => by kernel_rfl) ⟨Holds.rd H66_ 3 rfl, Holds.ro_at H66_ 1 rfl⟩ ?_
      refine A_ready (i := 13) (rs := []) (by kernel_rfl) ?_
      refine AllR.cons ?_ AllR.nil
      refine A_op (ls' := #[true, true, true, true, true, true, true, true, true, true, true, true, true, true, false]) rfl (by kernel_rfl) (T_box (v := (Value.agg #[(Value.int .i32 r), (Value.int .i32 3), (Value.slice (some ⟨b59_, 0, none⟩) key.size cp60_), (Value.nilIface), (Value.slice a56_ en.size cp57_)])) rfl H66_ ?_)
      intro b67_ w68_ S70_ H69_
      replace H69_ : Holds w68_ (cl b67_ 106 [(Value.int .i32 r), (Value.int .i32 3), (Value.slice (some ⟨b59_, 0, none⟩) key.size cp60_), (Value.nilIface), (Value.slice a56_ en.size cp57_)] :: sl 5 1 (Value.slice (some ⟨b59_, 0, none⟩) key.size cp60_) key.size (bytesV (ints key)) :: ro R :: sl 5 1 (Value.slice a56_ en.size cp57_) en.size (bytesV (ints en)) :: cl b2_ 31 [(Value.int .i64 3), (Value.int .i64 r), (Value.string key), (Value.string en), (Value.int .i64 n), (Value.string val), (Value.bool true)] :: F) := H69_
      have S71_ := Same.trans S65_ S70_
      refine ⟨⟨Holds.rd H69_ 4 rfl, Holds.ro_at H69_ 2 rfl⟩, ?_⟩
      refine A_take 14 (ls' := #[true, true, true, true, true, true, true, true, true, true, true, true, true, true, true]) (v := (Value.pointer (some ⟨b67_, 0, none⟩))) rfl (by kernel_rfl) (by kernel_rfl) (by kernel_rfl) (by kernel_rfl) (fun _ _ _ h => h) (fun w hS => x_assign rfl) ⟨Holds.rd H69_ 4 rfl, Holds.ro_at H69_ 2 rfl⟩ ?_
      refine A_done (by kernel_rfl) ?_
      refine (X_then (hK7_ _ _ ?_))
      clear hK7_
      refine C_seq (fun K72_ hK72_ => ?_)
      refine C_seq (fun K73_ hK73_ => ?_)
      refine C_reg ?_
      refine S_list (T_val (v := (Value.pointer (some ⟨b2_, 6, none⟩))) (by kernel_rfl) ?_)
      refine S_list (T_val (v := (Value.bool true)) (x_load1 rfl Try.underlying4 rfl ((Holds.rd H69_ 4 rfl) 6 (Value.bool true) rfl)) ?_)
      refine wpList_nil ?_
      refine (X_then (hK73_ _ _ ?_))
      clear hK73_
      refine C_condT rfl ?_
      refine C_seq (fun K74_ hK74_ => ?_)
      refine C_reg ?_
      refine S_list (T_val (v := (Value.pointer (some ⟨b67_, 0, none⟩))) (x_move rfl) ?_)
      refine S_list (T_val (v := (Value.pointer (some ⟨b67_, 0, none⟩))) (x_assign rfl) ?_)
      refine wpList_nil ?_
      refine (X_then (hK74_ _ _ ?_))
      clear hK74_
      refine C_ret (X_thenR ?_)
      refine R_any (v := (Value.pointer (some ⟨b67_, 0, none⟩))) (run_results1 rfl rfl) ?_
      have H75_ : Holds w68_ (ro R :: cl b67_ 106 [(Value.int .i32 r), (Value.int .i32 3), (Value.slice (some ⟨b59_, 0, none⟩) key.size cp60_), (Value.nilIface), (Value.slice a56_ en.size cp57_)] :: F) := (Holds.erase (Holds.erase (Holds.erase (Holds.bring (Holds.bring H69_ 0 rfl) 2 rfl) 2) 2) 2)
      exact ⟨_, [cl b67_ 106 [(Value.int .i32 r), (Value.int .i32 3), (Value.slice (some ⟨b59_, 0, none⟩) key.size cp60_), (Value.nilIface), (Value.slice a56_ en.size cp57_)]], rfl, ⟨b67_, (Value.slice (some ⟨b59_, 0, none⟩) key.size cp60_), (Value.slice a56_ en.size cp57_), rfl, rfl⟩, S71_, H75_⟩
    refine AllR.cons ?_ AllR.nil
    refine A_op (ls' := #[true, true, true, true, true, false, true, true, true, true, true, false, false, false, false]) rfl (by kernel_rfl) (T_s2b rfl Try.underlying9 Try.underlying25 Try.underlying5 H12_ ?_)
    intro b76_ cp77_ w78_ S80_ hc81_ H79_
    have S82_ := Same.trans S16_ S80_
    have H83_ : Holds w78_ (sl 5 1 (Value.slice (some ⟨b76_, 0, none⟩) key.size cp77_) key.size (bytesV (ints key)) :: ro R :: cl b2_ 31 [(Value.int .i64 3), (Value.int .i64 r), (Value.string key), (Value.string en), (Value.int .i64 n), (Value.string val), (Value.bool true)] :: F) := cast2 (P := fun (c__ : List Value) (k__ : Nat) => Holds w78_ (sl 5 1 (Value.slice (some ⟨b76_, 0, none⟩) key.size cp77_) k__ c__ :: ro R :: cl b2_ 31 [(Value.int .i64 3), (Value.int .i64 r), (Value.string key), (Value.string en), (Value.int .i64 n), (Value.string val), (Value.bool true)] :: F)) (byteCells_bytesV _ : byteCells key = bytesV (ints key)) (rfl : key.size = key.size) H79_
    refine ⟨⟨Holds.rd H83_ 2 rfl, Holds.ro_at H83_ 1 rfl⟩, ?_⟩
    refine A_ready (i := 5) (rs := []) (by kernel_rfl) ?_
    refine AllR.cons ?_ AllR.nil
    have H84_ : Holds w78_ (ro R :: sl 5 1 (Value.slice (some ⟨b76_, 0, none⟩) key.size cp77_) key.size (bytesV (ints key)) :: cl b2_ 31 [(Value.int .i64 3), (Value.int .i64 r), (Value.string key), (Value.string en), (Value.int .i64 n), (Value.string val), (Value.bool true)] :: F) := (Holds.bring H83_ 1 rfl)
    refine A_op (ls' := #[true, true, true, true, true, true, true, true, true, true, true, false, false, false, false]) rfl (by kernel_rfl) (T_call (al := [(Value.int .i64 3)]) (pre := []) (F := sl 5 1 (Value.slice (some ⟨b76_, 0, none⟩) key.size cp77_) key.size (bytesV (ints key)) :: cl b2_ 31 [(Value.int .i64 3), (Value.int .i64 r), (Value.string key), (Value.string en), (Value.int .i64 n), (Value.string val), (Value.bool true)] :: F) rfl rfl cb61 (ordSmall R 3 (by omega) (by omega)) H84_ ?_)
    rintro v88_ p89_ w85_ ⟨rfl, rfl⟩ S87_ H86_
    replace H86_ : Holds w85_ (ro R :: sl 5 1 (Value.slice (some ⟨b76_, 0, none⟩) key.size cp77_) key.size (bytesV (ints key)) :: cl b2_ 31 [(Value.int .i64 3), (Value.int .i64 r), (Value.string key), (Value.string en), (Value.int .i64 n), (Value.string val), (Value.bool true)] :: F) := H86_
    have S90_ := Same.trans S82_ S87_
    refine ⟨⟨Holds.rd H86_ 2 rfl, Holds.ro_at H86_ 0 rfl⟩, ?_⟩
    refine A_ready (i := 11) (rs := []) (by kernel_rfl) ?_
    refine AllR.cons ?_ AllR.nil
    refine A_op (ls' := #[true, true, true, true, true, true, true, true, true, true, true, true, false, false, false]) rfl (by kernel_rfl) (T_call (al := [(Value.string en)]) (pre := []) (F := sl 5 1 (Value.slice (some ⟨b76_, 0, none⟩) key.size cp77_) key.size (bytesV (ints key)) :: cl b2_ 31 [(Value.int .i64 3), (Value.int .i64 r), (Value.string key), (Value.string en), (Value.int .i64 n), (Value.string val), (Value.bool true)] :: F) rfl rfl cb62 (bytesOfC R en) H86_ ?_)
    rintro v94_ p95_ w91_ rfl S93_ H92_
    replace H92_ : Holds w91_ (ro R :: sl 5 1 v94_ en.size (bytesV (ints en)) :: sl 5 1 (Value.slice (some ⟨b76_, 0, none⟩) key.size cp77_) key.size (bytesV (ints key)) :: cl b2_ 31 [(Value.int .i64 3), (Value.int .i64 r), (Value.string key), (Value.string en), (Value.int .i64 n), (Value.string val), (Value.bool true)] :: F) := H92_
    have S96_ := Same.trans S90_ S93_
    obtain ⟨-, a97_, cp98_, rfl, hle99_⟩ := Holds.sl_len H92_ 1 rfl
    refine ⟨⟨Holds.rd H92_ 3 rfl, Holds.ro_at H92_ 0 rfl⟩, ?_⟩
    refine A_take 12 (ls' := #[true, true, true, true, true, true, true, true, true, true, true, true, true, false, false]) (v := (Value.agg #[(Value.int .i32 r), (Value.int .i32 3), (Value.slice (some ⟨b76_, 0, none⟩) key.size cp77_), (Value.nilIface), (Value.slice a97_ en.size cp98_)])) rfl (by kernel_rfl) (by kernel_rfl) (by kernel_rfl) (by kernel_rfl) (fun _ _ _ h => h) (fun w hS => by kernel_rfl) ⟨Holds.rd H92_ 3 rfl, Holds.ro_at H92_ 0 rfl⟩ ?_
    refine A_ready (i := 13) (rs := []) (by kernel_rfl) ?_
    refine AllR.cons ?_ AllR.nil
    refine A_op (ls' := #[true, true, true, true, true, true, true, true, true, true, true, true, true, true, false]) rfl (by kernel_rfl) (T_box (v := (Value.agg #[(Value.int .i32 r), (Value.int .i32 3), (Value.slice (some ⟨b76_, 0, none⟩) key.size cp77_), (Value.nilIface), (Value.slice a97_ en.size cp98_)])) rfl H92_ ?_)
    intro b100_ w101_ S103_ H102_
    replace H102_ : Holds w101_ (cl b100_ 106 [(Value.int .i32 r), (Value.int .i32 3), (Value.slice (some ⟨b76_, 0, none⟩) key.size cp77_), (Value.nilIface), (Value.slice a97_ en.size cp98_)] :: ro R :: sl 5 1 (Value.slice a97_ en.size cp98_) en.size (bytesV (ints en)) :: sl 5 1 (Value.slice (some ⟨b76_, 0, none⟩) key.size cp77_) key.size (bytesV (ints key)) :: cl b2_ 31 [(Value.int .i64 3), (Value.int .i64 r), (Value.string key), (Value.string en), (Value.int .i64 n), (Value.string val), (Value.bool true)] :: F) := H102_
    have S104_ := Same.trans S96_ S103_
    refine ⟨⟨Holds.rd H102_ 4 rfl, Holds.ro_at H102_ 1 rfl⟩, ?_⟩
    refine A_take 14 (ls' := #[true, true, true, true, true, true, true, true, true, true, true, true, true, true, true]) (v := (Value.pointer (some ⟨b100_, 0, none⟩))) rfl (by kernel_rfl) (by kernel_rfl) (by kernel_rfl) (by kernel_rfl) (fun _ _ _ h => h) (fun w hS => x_assign rfl) ⟨Holds.rd H102_ 4 rfl, Holds.ro_at H102_ 1 rfl⟩ ?_
    refine A_done (by kernel_rfl) ?_
    refine (X_then (hK7_ _ _ ?_))
    clear hK7_
    refine C_seq (fun K105_ hK105_ => ?_)
    refine C_seq (fun K106_ hK106_ => ?_)
    refine C_reg ?_
    refine S_list (T_val (v := (Value.pointer (some ⟨b2_, 6, none⟩))) (by kernel_rfl) ?_)
    refine S_list (T_val (v := (Value.bool true)) (x_load1 rfl Try.underlying4 rfl ((Holds.rd H102_ 4 rfl) 6 (Value.bool true) rfl)) ?_)
    refine wpList_nil ?_
    refine (X_then (hK106_ _ _ ?_))
    clear hK106_
    refine C_condT rfl ?_
    refine C_seq (fun K107_ hK107_ => ?_)
    refine C_reg ?_
    refine S_list (T_val (v := (Value.pointer (some ⟨b100_, 0, none⟩))) (x_move rfl) ?_)
    refine S_list (T_val (v := (Value.pointer (some ⟨b100_, 0, none⟩))) (x_assign rfl) ?_)
    refine wpList_nil ?_
    refine (X_then (hK107_ _ _ ?_))
    clear hK107_
    refine C_ret (X_thenR ?_)
    refine R_any (v := (Value.pointer (some ⟨b100_, 0, none⟩))) (run_results1 rfl rfl) ?_
    have H108_ : Holds w101_ (ro R :: cl b100_ 106 [(Value.int .i32 r), (Value.int .i32 3), (Value.slice (some ⟨b76_, 0, none⟩) key.size cp77_), (Value.nilIface), (Value.slice a97_ en.size cp98_)] :: F) := (Holds.erase (Holds.erase (Holds.erase (Holds.bring (Holds.bring H102_ 0 rfl) 1 rfl) 2) 2) 2)
    exact ⟨_, [cl b100_ 106 [(Value.int .i32 r), (Value.int .i32 3), (Value.slice (some ⟨b76_, 0, none⟩) key.size cp77_), (Value.nilIface), (Value.slice a97_ en.size cp98_)]], rfl, ⟨b100_, (Value.slice (some ⟨b76_, 0, none⟩) key.size cp77_), (Value.slice a97_ en.size cp98_), rfl, rfl⟩, S104_, H108_⟩
  refine AllR.cons ?_ AllR.nil
  refine A_op (ls' := #[true, true, false, true, true, false, true, true, true, true, true, false, false, false, false]) rfl (by kernel_rfl) (T_s2b rfl Try.underlying9 Try.underlying25 Try.underlying5 H9_ ?_)
  intro b109_ cp110_ w111_ S113_ hc114_ H112_
  have S115_ := Same.trans (Same.trans S6_ (Same.drew _)) S113_
  have H116_ : Holds w111_ (sl 5 1 (Value.slice (some ⟨b109_, 0, none⟩) key.size cp110_) key.size (bytesV (ints key)) :: cl b2_ 31 [(Value.int .i64 3), (Value.int .i64 r), (Value.string key), (Value.string en), (Value.int .i64 n), (Value.string val), (Value.bool true)] :: ro R :: F) := cast2 (P := fun (c__ : List Value) (k__ : Nat) => Holds w111_ (sl 5 1 (Value.slice (some ⟨b109_, 0, none⟩) key.size cp110_) k__ c__ :: cl b2_ 31 [(Value.int .i64 3), (Value.int .i64 r), (Value.string key), (Value.string en), (Value.int .i64 n), (Value.string val), (Value.bool true)] :: ro R :: F)) (byteCells_bytesV _ : byteCells key = bytesV (ints key)) (rfl : key.size = key.size) H112_
  refine ⟨⟨Holds.rd H116_ 1 rfl, Holds.ro_at H116_ 2 rfl⟩, ?_⟩
  refine A_ready (i := 2) (rs := []) (by kernel_rfl) ?_
  refine AllR.cons ?_ AllR.nil
  have H117_ : Holds w111_ (ro R :: sl 5 1 (Value.slice (some ⟨b109_, 0, none⟩) key.size cp110_) key.size (bytesV (ints key)) :: cl b2_ 31 [(Value.int .i64 3), (Value.int .i64 r), (Value.string key), (Value.string en), (Value.int .i64 n), (Value.string val), (Value.bool true)] :: F) := (Holds.bring H116_ 2 rfl)
  refine A_op (ls' := #[true, true, true, true, true, false, true, true, true, true, true, false, false, false, false]) rfl (by kernel_rfl) (T_call (al := [(Value.int .i64 r)]) (pre := []) (F := sl 5 1 (Value.slice (some ⟨b109_, 0, none⟩) key.size cp110_) key.size (bytesV (ints key)) :: cl b2_ 31 [(Value.int .i64 3), (Value.int .i64 r), (Value.string key), (Value.string en), (Value.int .i64 n), (Value.string val), (Value.bool true)] :: F) rfl rfl cb61 (ordSmall R r (by omega) (by omega)) H117_ ?_)
  rintro v121_ p122_ w118_ ⟨rfl, rfl⟩ S120_ H119_
  replace H119_ : Holds w118_ (ro R :: sl 5 1 (Value.slice (some ⟨b109_, 0, none⟩) key.size cp110_) key.size (bytesV (ints key)) :: cl b2_ 31 [(Value.int .i64 3), (Value.int .i64 r), (Value.string key), (Value.string en), (Value.int .i64 n), (Value.string val), (Value.bool true)] :: F) := H119_
  have S123_ := Same.trans S115_ S120_
  refine ⟨⟨Holds.rd H119_ 2 rfl, Holds.ro_at H119_ 0 rfl⟩, ?_⟩
  refine A_ready (i := 5) (rs := []) (by kernel_rfl) ?_
  refine AllR.cons ?_ AllR.nil
  refine A_op (ls' := #[true, true, true, true, true, true, true, true, true, true, true, false, false, false, false]) rfl (by kernel_rfl) (T_call (al := [(Value.int .i64 3)]) (pre := []) (F := sl 5 1 (Value.slice (some ⟨b109_, 0, none⟩) key.size cp110_) key.size (bytesV (ints key)) :: cl b2_ 31 [(Value.int .i64 3), (Value.int .i64 r), (Value.string key), (Value.string en), (Value.int .i64 n), (Value.string val), (Value.bool true)] :: F) rfl rfl cb61 (ordSmall R 3 (by omega) (by omega)) H119_ ?_)
  rintro v127_ p128_ w124_ ⟨rfl, rfl⟩ S126_ H125_
  replace H125_ : Holds w124_ (ro R :: sl 5 1 (Value.slice (some ⟨b109_, 0, none⟩) key.size cp110_) key.size (bytesV (ints key)) :: cl b2_ 31 [(Value.int .i64 3), (Value.int .i64 r), (Value.string key), (Value.string en), (Value.int .i64 n), (Value.string val), (Value.bool true)] :: F) := H125_
  have S129_ := Same.trans S123_ S126_
  refine ⟨⟨Holds.rd H125_ 2 rfl, Holds.ro_at H125_ 0 rfl⟩, ?_⟩
  refine A_ready (i := 11) (rs := []) (by kernel_rfl) ?_
  refine AllR.cons ?_ AllR.nil
  refine A_op (ls' := #[true, true, true, true, true, true, true, true, true, true, true, true, false, false, false]) rfl (by kernel_rfl) (T_call (al := [(Value.string en)]) (pre := []) (F := sl 5 1 (Value.slice (some ⟨b109_, 0, none⟩) key.size cp110_) key.size (bytesV (ints key)) :: cl b2_ 31 [(Value.int .i64 3), (Value.int .i64 r), (Value.string key), (Value.string en), (Value.int .i64 n), (Value.string val), (Value.bool true)] :: F) rfl rfl cb62 (bytesOfC R en) H125_ ?_)
  rintro v133_ p134_ w130_ rfl S132_ H131_
  replace H131_ : Holds w130_ (ro R :: sl 5 1 v133_ en.size (bytesV (ints en)) :: sl 5 1 (Value.slice (some ⟨b109_, 0, none⟩) key.size cp110_) key.size (bytesV (ints key)) :: cl b2_ 31 [(Value.int .i64 3), (Value.int .i64 r), (Value.string key), (Value.string en), (Value.int .i64 n), (Value.string val), (Value.bool true)] :: F) := H131_
  have S135_ := Same.trans S129_ S132_
  obtain ⟨-, a136_, cp137_, rfl, hle138_⟩ := Holds.sl_len H131_ 1 rfl
  refine ⟨⟨Holds.rd H131_ 3 rfl, Holds.ro_at H131_ 0 rfl⟩, ?_⟩
  refine A_take 12 (ls' := #[true, true, true, true, true, true, true, true, true, true, true, true, true, false, false]) (v := (Value.agg #[(Value.int .i32 r), (Value.int .i32 3), (Value.slice (some ⟨b109_, 0, none⟩) key.size cp110_), (Value.nilIface), (Value.slice a136_ en.size cp137_)])) rfl (by kernel_rfl) (by kernel_rfl) (by kernel_rfl) (by kernel_rfl) (fun _ _ _ h => h) (fun w hS => by kernel_rfl) ⟨Holds.rd H131_ 3 rfl, Holds.ro_at H131_ 0 rfl⟩ ?_
  refine A_ready (i := 13) (rs := []) (by kernel_rfl) ?_
  refine AllR.cons ?_ AllR.nil
  refine A_op (ls' := #[true, true, true, true, true, true, true, true, true, true, true, true, true, true, false]) rfl (by kernel_rfl) (T_box (v := (Value.agg #[(Value.int .i32 r), (Value.int .i32 3), (Value.slice (some ⟨b109_, 0, none⟩) key.size cp110_), (Value.nilIface), (Value.slice a136_ en.size cp137_)])) rfl H131_ ?_)
  intro b139_ w140_ S142_ H141_
  replace H141_ : Holds w140_ (cl b139_ 106 [(Value.int .i32 r), (Value.int .i32 3), (Value.slice (some ⟨b109_, 0, none⟩) key.size cp110_), (Value.nilIface), (Value.slice a136_ en.size cp137_)] :: ro R :: sl 5 1 (Value.slice a136_ en.size cp137_) en.size (bytesV (ints en)) :: sl 5 1 (Value.slice (some ⟨b109_, 0, none⟩) key.size cp110_) key.size (bytesV (ints key)) :: cl b2_ 31 [(Value.int .i64 3), (Value.int .i64 r), (Value.string key), (Value.string en), (Value.int .i64 n), (Value.string val), (Value.bool true)] :: F) := H141_
  have S143_ := Same.trans S135_ S142_
  refine ⟨⟨Holds.rd H141_ 4 rfl, Holds.ro_at H141_ 1 rfl⟩, ?_⟩
  refine A_take 14 (ls' := #[true, true, true, true, true, true, true, true, true, true, true, true, true, true, true]) (v := (Value.pointer (some ⟨b139_, 0, none⟩))) rfl (by kernel_rfl) (by kernel_rfl) (by kernel_rfl) (by kernel_rfl) (fun _ _ _ h => h) (fun w hS => x_assign rfl) ⟨Holds.rd H141_ 4 rfl, Holds.ro_at H141_ 1 rfl⟩ ?_
  refine A_done (by kernel_rfl) ?_
  refine (X_then (hK7_ _ _ ?_))
  clear hK7_
  refine C_seq (fun K144_ hK144_ => ?_)
  refine C_seq (fun K145_ hK145_ => ?_)
  refine C_reg ?_
  refine S_list (T_val (v := (Value.pointer (some ⟨b2_, 6, none⟩))) (by kernel_rfl) ?_)
  refine S_list (T_val (v := (Value.bool true)) (x_load1 rfl Try.underlying4 rfl ((Holds.rd H141_ 4 rfl) 6 (Value.bool true) rfl)) ?_)
  refine wpList_nil ?_
  refine (X_then (hK145_ _ _ ?_))
  clear hK145_
  refine C_condT rfl ?_
  refine C_seq (fun K146_ hK146_ => ?_)
  refine C_reg ?_
  refine S_list (T_val (v := (Value.pointer (some ⟨b139_, 0, none⟩))) (x_move rfl) ?_)
  refine S_list (T_val (v := (Value.pointer (some ⟨b139_, 0, none⟩))) (x_assign rfl) ?_)
  refine wpList_nil ?_
  refine (X_then (hK146_ _ _ ?_))
  clear hK146_
  refine C_ret (X_thenR ?_)
  refine R_any (v := (Value.pointer (some ⟨b139_, 0, none⟩))) (run_results1 rfl rfl) ?_
  have H147_ : Holds w140_ (ro R :: cl b139_ 106 [(Value.int .i32 r), (Value.int .i32 3), (Value.slice (some ⟨b109_, 0, none⟩) key.size cp110_), (Value.nilIface), (Value.slice a136_ en.size cp137_)] :: F) := (Holds.erase (Holds.erase (Holds.erase (Holds.bring (Holds.bring H141_ 0 rfl) 1 rfl) 2) 2) 2)
  exact ⟨_, [cl b139_ 106 [(Value.int .i32 r), (Value.int .i32 3), (Value.slice (some ⟨b109_, 0, none⟩) key.size cp110_), (Value.nilIface), (Value.slice a136_ en.size cp137_)]], rfl, ⟨b139_, (Value.slice (some ⟨b109_, 0, none⟩) key.size cp110_), (Value.slice a136_ en.size cp137_), rfl, rfl⟩, S143_, H147_⟩

set_option maxHeartbeats 400000 in
theorem cmpIn3f (R : HP) (r : Int) (key en : ByteArray) (n : Int) (val : ByteArray) (h0 : 0 ≤ r) (h1 : r ≤ 3) :
    Tri Try.prog 36 #[(Value.agg #[(Value.int .i64 3), (Value.int .i64 r), (Value.string key), (Value.string en), (Value.int .i64 n), (Value.string val), (Value.bool false)])] R [] (fun v post => ∃ c u K E V, v = .pointer (some ⟨c, 0, none⟩) ∧ post = [cl c 106 [.int .i32 r, .int .i32 3, K, .iface 116 (.pointer (some ⟨u, 0, none⟩)), E], cl u 118 [V], sl 5 1 V val.size (bytesV (ints val))]) := by
  refine Tri.into (n := 75) (al := [(Value.agg #[(Value.int .i64 3), (Value.int .i64 r), (Value.string key), (Value.string en), (Value.int .i64 n), (Value.string val), (Value.bool false)])]) Try.func36 rfl Try.ntmps36 rfl rfl fun w F H => ?_
  replace H : Holds w (ro R :: F) := H
  refine C_seq (fun K1_ hK1_ => ?_)
  refine C_reg ?_
  refine S_list (T_box (v := (Value.agg #[(Value.int .i64 3), (Value.int .i64 r), (Value.string key), (Value.string en), (Value.int .i64 n), (Value.string val), (Value.bool false)])) rfl H ?_)
  intro b2_ w3_ S5_ H4_
  replace H4_ : Holds w3_ (cl b2_ 31 [(Value.int .i64 3), (Value.int .i64 r), (Value.string key), (Value.string en), (Value.int .i64 n), (Value.string val), (Value.bool false)] :: ro R :: F) := H4_
  have S6_ := Same.trans (Same.refl w) S5_
  refine S_list (T_val (v := (Value.pointer none)) (x_assign rfl) ?_)
  refine wpList_nil ?_
  refine (X_then (hK1_ _ _ ?_))
  clear hK1_
  refine C_seq (fun K7_ hK7_ => ?_)
  refine A_start (S := fun w => Rd b2_ [(Value.int .i64 3), (Value.int .i64 r), (Value.string key), (Value.string en), (Value.int .i64 n), (Value.string val), (Value.bool false)] w ∧ Sub R (hp w)) (N := 15) foll rfl rfl ?_
  have H9_ : Holds w3_.drew (cl b2_ 31 [(Value.int .i64 3), (Value.int .i64 r), (Value.string key), (Value.string en), (Value.int .i64 n), (Value.string val), (Value.bool false)] :: ro R :: F) := H4_
  refine A_take 0 (ls' := #[true, false, false, false, false, false, false, false, false, false, false, false, false, false, false]) (v := (Value.pointer (some ⟨b2_, 1, none⟩))) rfl (by kernel_rfl) (by kernel_rfl) (by kernel_rfl) (by kernel_rfl) (fun _ _ _ h => h) (fun w hS => by kernel_rfl) ⟨Holds.rd H9_ 0 rfl, Holds.ro_at H9_ 1 rfl⟩ ?_
  refine A_take 1 (ls' := #[true, true, false, false, false, false, false, false, false, false, false, false, false, false, false]) (v := (Value.int .i64 r)) rfl (by kernel_rfl) (by kernel_rfl) (by kernel_rfl) (by kernel_rfl) (fun _ _ _ h => h) (fun w hS => x_load1 rfl Try.underlying3 rfl (hS.1 1 (Value.int .i64 r) rfl)) ⟨Holds.rd H9_ 0 rfl, Holds.ro_at H9_ 1 rfl⟩ ?_
  refine A_take 3 (ls' := #[true, true, false, true, false, false, false, false, false, false, false, false, false, false, false]) (v := (Value.pointer (some ⟨b2_, 0, none⟩))) rfl (by kernel_rfl) (by kernel_rfl) (by kernel_rfl) (by kernel_rfl) (fun _ _ _ h => h) (fun w hS => by kernel_rfl) ⟨Holds.rd H9_ 0 rfl, Holds.ro_at H9_ 1 rfl⟩ ?_
  refine A_take 4 (ls' := #[true, true, false, true, true, false, false, false, false, false, false, false, false, false, false]) (v := (Value.int .i64 3)) rfl (by kernel_rfl) (by kernel_rfl) (by kernel_rfl) (by kernel_rfl) (fun _ _ _ h => h) (fun w hS => x_load1 rfl Try.underlying3 rfl (hS.1 0 (Value.int .i64 3) rfl)) ⟨Holds.rd H9_ 0 rfl, Holds.ro_at H9_ 1 rfl⟩ ?_
  refine A_take 6 (ls' := #[true, true, false, true, true, false, true, false, false, false, false, false, false, false, false]) (v := (Value.pointer (some ⟨b2_, 2, none⟩))) rfl (by kernel_rfl) (by kernel_rfl) (by kernel_rfl) (by kernel_rfl) (fun _ _ _ h => h) (fun w hS => by kernel_rfl) ⟨Holds.rd H9_ 0 rfl, Holds.ro_at H9_ 1 rfl⟩ ?_
  refine A_take 7 (ls' := #[true, true, false, true, true, false, true, true, false, false, false, false, false, false, false]) (v := (Value.string key)) rfl (by kernel_rfl) (by kernel_rfl) (by kernel_rfl) (by kernel_rfl) (fun _ _ _ h => h) (fun w hS => x_load1 rfl Try.underlying9 rfl (hS.1 2 (Value.string key) rfl)) ⟨Holds.rd H9_ 0 rfl, Holds.ro_at H9_ 1 rfl⟩ ?_
  refine A_take 9 (ls' := #[true, true, false, true, true, false, true, true, false, true, false, false, false, false, false]) (v := (Value.pointer (some ⟨b2_, 3, none⟩))) rfl (by kernel_rfl) (by kernel_rfl) (by kernel_rfl) (by kernel_rfl) (fun _ _ _ h => h) (fun w hS => by kernel_rfl) ⟨Holds.rd H9_ 0 rfl, Holds.ro_at H9_ 1 rfl⟩ ?_
  refine A_take 10 (ls' := #[true, true, false, true, true, false, true, true, false, true, true, false, false, false, false]) (v := (Value.string en)) rfl (by kernel_rfl) (by kernel_rfl) (by kernel_rfl) (by kernel_rfl) (fun _ _ _ h => h) (fun w hS => x_load1 rfl Try.underlying9 rfl (hS.1 3 (Value.string en) rfl)) ⟨Holds.rd H9_ 0 rfl, Holds.ro_at H9_ 1 rfl⟩ ?_
  refine A_ready (i := 2) (rs := [8]) (by kernel_rfl) ?_
  refine AllR.cons ?_ ?_
  · skip
    have H10_ : Holds w3_.drew (ro R :: cl b2_ 31 [(Value.int .i64 3), (Value.int .i64 r), (Value.string key), (Value.string en), (Value.int .i64 n), (Value.string val), (Value.bool false)] :: F) := (Holds.bring H9_ 1 rfl)
    refine A_op (ls' := #[true, true, true, true, true, false, true, true, false, true, true, false, false, false, false]) rfl (by kernel_rfl) (T_call (al := [(Value.int .i64 r)]) (pre := []) (F := cl b2_ 31 [(Value.int .i64 3), (Value.int .i64 r), (Value.string key), (Value.string en), (Value.int .i64 n), (Value.string val), (Value.bool false)] :: F) rfl rfl cb61 (ordSmall R r (by omega) (by omega)) H10_ ?_)
    rintro v14_ p15_ w11_ ⟨rfl, rfl⟩ S13_ H12_
    replace H12_ : Holds w11_ (ro R :: cl b2_ 31 [(Value.int .i64 3), (Value.int .i64 r), (Value.string key), (Value.string en), (Value.int .i64 n), (Value.string val), (Value.bool false)] :: F) := H12_
    have S16_ := Same.trans (Same.trans S6_ (Same.drew _)) S13_
    refine ⟨⟨Holds.rd H12_ 1 rfl, Holds.ro_at H12_ 0 rfl⟩, ?_⟩
    refine A_ready (i := 5) (rs := [8]) (by kernel_rfl) ?_
    refine AllR.cons ?_ ?_
    · skip
      refine A_op (ls' := #[true, true, true, true, true, true, true, true, false, true, true, false, false, false, false]) rfl (by kernel_rfl) (T_call (al := [(Value.int .i64 3)]) (pre := []) (F := cl b2_ 31 [(Value.int .i64 3), (Value.int .i64 r), (Value.string key), (Value.string en), (Value.int .i64 n), (Value.string val), (Value.bool false)] :: F) rfl rfl cb61 (ordSmall R 3 (by omega) (by omega)) H12_ ?_)
      rintro v20_ p21_ w17_ ⟨rfl, rfl⟩ S19_ H18_
      replace H18_ : Holds w17_ (ro R :: cl b2_ 31 [(Value.int .i64 3), (Value.int .i64 r), (Value.string key), (Value.string en), (Value.int .i64 n), (Value.string val), (Value.bool false)] :: F) := H18_
      have S22_ := Same.trans S16_ S19_
      refine ⟨⟨Holds.rd H18_ 1 rfl, Holds.ro_at H18_ 0 rfl⟩, ?_⟩
      refine A_ready (i := 8) (rs := [11]) (by kernel_rfl) ?_
      refine AllR.cons ?_ ?_
      · skip
        refine A_op (ls' := #[true, true, true, true, true, true, true, true, true, true, true, false, false, false, false]) rfl (by kernel_rfl) (T_s2b rfl Try.underlying9 Try.underlying25 Try.underlying5 H18_ ?_)
        intro b23_ cp24_ w25_ S27_ hc28_ H26_
        have S29_ := Same.trans S22_ S27_
        have H30_ : Holds w25_ (sl 5 1 (Value.slice (some ⟨b23_, 0, none⟩) key.size cp24_) key.size (bytesV (ints key)) :: ro R :: cl b2_ 31 [(Value.int .i64 3), (Value.int .i64 r), (Value.string key), (Value.string en), (Value.int .i64 n), (Value.string val), (Value.bool false)] :: F) := cast2 (P := fun (c__ : List Value) (k__ : Nat) => Holds w25_ (sl 5 1 (Value.slice (some ⟨b23_, 0, none⟩) key.size cp24_) k__ c__ :: ro R :: cl b2_ 31 [(Value.int .i64 3), (Value.int .i64 r), (Value.string key), (Value.string en), (Value.int .i64 n), (Value.string val), (Value.bool false)] :: F)) (byteCells_bytesV _ : byteCells key = bytesV (ints key)) (rfl : key.size = key.size) H26_
        refine ⟨⟨Holds.rd H30_ 2 rfl, Holds.ro_at H30_ 1 rfl⟩, ?_⟩
        refine A_ready (i := 11) (rs := []) (by kernel_rfl) ?_
        refine AllR.cons ?_ AllR.nil
        have H31_ : Holds w25_ (ro R :: sl 5 1 (Value.slice (some ⟨b23_, 0, none⟩) key.size cp24_) key.size (bytesV (ints key)) :: cl b2_ 31 [(Value.int .i64 3), (Value.int .i64 r), (Value.string key), (Value.string en), (Value.int .i64 n), (Value.string val), (Value.bool false)] :: F) := (Holds.bring H30_ 1 rfl)
        refine A_op (ls' := #[true, true, true, true, true, true, true, true, true, true, true, true, false, false, false]) rfl (by kernel_rfl) (T_call (al := [(Value.string en)]) (pre := []) (F := sl 5 1 (Value.slice (some ⟨b23_, 0, none⟩) key.size cp24_) key.size (bytesV (ints key)) :: cl b2_ 31 [(Value.int .i64 3), (Value.int .i64 r), (Value.string key), (Value.string en), (Value.int .i64 n), (Value.string val), (Value.bool false)] :: F) rfl rfl cb62 (bytesOfC R en) H31_ ?_)
        rintro v35_ p36_ w32_ rfl S34_ H33_
        replace H33_ : Holds w32_ (ro R :: sl 5 1 v35_ en.size (bytesV (ints en)) :: sl 5 1 (Value.slice (some ⟨b23_, 0, none⟩) key.size cp24_) key.size (bytesV (ints key)) :: cl b2_ 31 [(Value.int .i64 3), (Value.int .i64 r), (Value.string key), (Value.string en), (Value.int .i64 n), (Value.string val), (Value.bool false)] :: F) := H33_
        have S37_ := Same.trans S29_ S34_
        obtain ⟨-, a38_, cp39_, rfl, hle40_⟩ := Holds.sl_len H33_ 1 rfl
        refine ⟨⟨Holds.rd H33_ 3 rfl, Holds.ro_at H33_ 0 rfl⟩, ?_⟩
        refine A_take 12 (ls' := #[true, true, true, true, true, true, true, true, true, true, true, true, true, false, false]) (v := (Value.agg #[(Value.int .i32 r), (Value.int .i32 3), (Value.slice (some ⟨b23_, 0, none⟩) key.size cp24_), (Value.nilIface), (Value.slice a38_ en.size cp39_)])) rfl (by kernel_rfl) (by kernel_rfl) (by kernel_rfl) (by kernel_rfl) (fun _ _ _ h => h) (fun w hS => by kernel_rfl) ⟨Holds.rd H33_ 3 rfl, Holds.ro_at H33_ 0 rfl⟩ ?_
        refine A_ready (i := 13) (rs := []) (by kernel_rfl) ?_
        refine AllR.cons ?_ AllR.nil
        refine A_op (ls' := #[true, true, true, true, true, true, true, true, true, true, true, true, true, true, false]) rfl (by kernel_rfl) (T_box (v := (Value.agg #[(Value.int .i32 r), (Value.int .i32 3), (Value.slice (some ⟨b23_, 0, none⟩) key.size cp24_), (Value.nilIface), (Value.slice a38_ en.size cp39_)])) rfl H33_ ?_)
        intro b41_ w42_ S44_ H43_
        replace H43_ : Holds w42_ (cl b41_ 106 [(Value.int .i32 r), (Value.int .i32 3), (Value.slice (some ⟨b23_, 0, none⟩) key.size cp24_), (Value.nilIface), (Value.slice a38_ en.size cp39_)] :: ro R :: sl 5 1 (Value.slice a38_ en.size cp39_) en.size (bytesV (ints en)) :: sl 5 1 (Value.slice (some ⟨b23_, 0, none⟩) key.size cp24_) key.size (bytesV (ints key)) :: cl b2_ 31 [(Value.int .i64 3), (Value.int .i64 r), (Value.string key), (Value.string en), (Value.int .i64 n), (Value.string val), (Value.bool false)] :: F) := H43_
        have S45_ := Same.trans S37_ S44_
        refine ⟨⟨Holds.rd H43_ 4 rfl, Holds.ro_at H43_ 1 rfl⟩, ?_⟩
        refine A_take 14 (ls' := #[true, true, true, true, true, true, true, true, true, true, true, true, true, true, true]) (v := (Value.pointer (some ⟨b41_, 0, none⟩))) rfl (by kernel_rfl) (by kernel_rfl) (by kernel_rfl) (by kernel_rfl) (fun _ _ _ h => h) (fun w hS => x_assign rfl) ⟨Holds.rd H43_ 4 rfl, Holds.ro_at H43_ 1 rfl⟩ ?_
        refine A_done (by kernel_rfl) ?_
        refine (X_then (hK7_ _ _ ?_))
        clear hK7_
        refine C_seq (fun K46_ hK46_ => ?_)
        refine C_seq (fun K47_ hK47_ => ?_)
        refine C_reg ?_
        refine S_list (T_val (v := (Value.pointer (some ⟨b2_, 6, none⟩))) (by kernel_rfl) ?_)
        refine S_list (T_val (v := (Value.bool false)) (x_load1 rfl Try.underlying4 rfl ((Holds.rd H43_ 4 rfl) 6 (Value.bool false) rfl)) ?_)
        refine wpList_nil ?_
        refine (X_then (hK47_ _ _ ?_))
        clear hK47_
        refine C_condF rfl ?_
        refine C_skip (X_then (hK46_ _ _ ?_))
        clear hK46_
        refine C_seq (fun K48_ hK48_ => ?_)
        refine C_seq (fun K49_ hK49_ => ?_)
        refine C_reg ?_
        refine S_list (T_val (v := (Value.pointer (some ⟨b2_, 0, none⟩))) (by kernel_rfl) ?_)
        refine S_list (T_val (v := (Value.int .i64 3)) (x_load1 rfl Try.underlying3 rfl ((Holds.rd H43_ 4 rfl) 0 (Value.int .i64 3) rfl)) ?_)
        refine wpList_nil ?_
        refine (X_then (hK49_ _ _ ?_))
        clear hK49_
        refine C_block ?_
        refine C_seq (fun K50_ hK50_ => ?_)
        refine C_reg ?_
        refine S_list (T_val (v := (Value.bool false)) (x_bin rfl rfl rfl) ?_)
        refine S_list (T_val (v := (Value.bool false)) (x_assign rfl) ?_)
        refine wpList_nil ?_
        refine (X_then (hK50_ _ _ ?_))
        clear hK50_
        refine C_condF rfl ?_
        refine C_seq (fun K51_ hK51_ => ?_)
        refine C_reg ?_
        refine S_list (T_val (v := (Value.bool false)) (x_bin rfl rfl rfl) ?_)
        refine S_list (T_val (v := (Value.bool false)) (x_assign rfl) ?_)
        refine wpList_nil ?_
        refine (X_then (hK51_ _ _ ?_))
        clear hK51_
        refine C_condF rfl ?_
        refine C_seq (fun K52_ hK52_ => ?_)
        refine C_reg ?_
        refine S_list (T_val (v := (Value.bool false)) (x_bin rfl rfl rfl) ?_)
        refine S_list (T_val (v := (Value.bool false)) (x_assign rfl) ?_)
        refine wpList_nil ?_
        refine (X_then (hK52_ _ _ ?_))
        clear hK52_
        refine C_condF rfl ?_
        refine C_seq (fun K53_ hK53_ => ?_)
        refine C_reg ?_
        refine S_list (T_val (v := (Value.bool true)) (x_bin rfl rfl rfl) ?_)
        refine S_list (T_val (v := (Value.bool true)) (x_assign rfl) ?_)
        refine wpList_nil ?_
        refine (X_then (hK53_ _ _ ?_))
        clear hK53_
        refine C_condT rfl ?_
        refine C_reg ?_
        refine S_list (T_val (v := (Value.pointer (some ⟨b41_, 0, none⟩))) (x_move rfl) ?_)
        refine S_list (T_val (v := (Value.pointer (some ⟨b2_, 5, none⟩))) (by kernel_rfl) ?_)
        refine S_list (T_val (v := (Value.string val)) (x_load1 rfl Try.underlying9 rfl ((Holds.rd H43_ 4 rfl) 5 (Value.string val) rfl)) ?_)
        refine S_list (T_s2b rfl Try.underlying9 Try.underlying25 Try.underlying5 H43_ ?_)
        intro b54_ cp55_ w56_ S58_ hc59_ H57_
        have S60_ := Same.trans S45_ S58_
        have H61_ : Holds w56_ (sl 5 1 (Value.slice (some ⟨b54_, 0, none⟩) val.size cp55_) val.size (bytesV (ints val)) :: cl b41_ 106 [(Value.int .i32 r), (Value.int .i32 3), (Value.slice (some ⟨b23_, 0, none⟩) key.size cp24_), (Value.nilIface), (Value.slice a38_ en.size cp39_)] :: ro R :: sl 5 1 (Value.slice a38_ en.size cp39_) en.size (bytesV (ints en)) :: sl 5 1 (Value.slice (some ⟨b23_, 0, none⟩) key.size cp24_) key.size (bytesV (ints key)) :: cl b2_ 31 [(Value.int .i64 3), (Value.int .i64 r), (Value.string key), (Value.string en), (Value.int .i64 n), (Value.string val), (Value.bool false)] :: F) := cast2 (P := fun (c__ : List Value) (k__ : Nat) => Holds w56_ (sl 5 1 (Value.slice (some ⟨b54_, 0, none⟩) val.size cp55_) k__ c__ :: cl b41_ 106 [(Value.int .i32 r), (Value.int .i32 3), (Value.slice (some ⟨b23_, 0, none⟩) key.size cp24_), (Value.nilIface), (Value.slice a38_ en.size cp39_)] :: ro R :: sl 5 1 (Value.slice a38_ en.size cp39_) en.size (bytesV (ints en)) :: sl 5 1 (Value.slice (some ⟨b23_, 0, none⟩) key.size cp24_) key.size (bytesV (ints key)) :: cl b2_ 31 [(Value.int .i64 3), (Value.int .i64 r), (Value.string key), (Value.string en), (Value.int .i64 n), (Value.string val), (Value.bool false)] :: F)) (byteCells_bytesV _ : byteCells val = bytesV (ints val)) (rfl : val.size = val.size) H57_
        refine S_list (T_val (v := (Value.agg #[(Value.slice (some ⟨b54_, 0, none⟩) val.size cp55_)])) (by kernel_rfl) ?_)
        refine S_list (T_box (v := (Value.agg #[(Value.slice (some ⟨b54_, 0, none⟩) val.size cp55_)])) rfl H61_ ?_)
        intro b62_ w63_ S65_ H64_
        replace H64_ : Holds w63_ (cl b62_ 118 [(Value.slice (some ⟨b54_, 0, none⟩) val.size cp55_)] :: sl 5 1 (Value.slice (some ⟨b54_, 0, none⟩) val.size cp55_) val.size (bytesV (ints val)) :: cl b41_ 106 [(Value.int .i32 r), (Value.int .i32 3), (Value.slice (some ⟨b23_, 0, none⟩) key.size cp24_), (Value.nilIface), (Value.slice a38_ en.size cp39_)] :: ro R :: sl 5 1 (Value.slice a38_ en.size cp39_) en.size (bytesV (ints en)) :: sl 5 1 (Value.slice (some ⟨b23_, 0, none⟩) key.size cp24_) key.size (bytesV (ints key)) :: cl b2_ 31 [(Value.int .i64 3), (Value.int .i64 r), (Value.string key), (Value.string en), (Value.int .i64 n), (Value.string val), (Value.bool false)] :: F) := H64_
        have S66_ := Same.trans S60_ S65_
        refine S_list (T_val (v := (Value.iface 116 (Value.pointer (some ⟨b62_, 0, none⟩)))) (by kernel_rfl) ?_)
        refine S_list (T_val (v := (Value.pointer (some ⟨b41_, 0, none⟩))) (by kernel_rfl) ?_)
        refine S_list (T_val (v := (Value.pointer (some ⟨b41_, 3, none⟩))) (by kernel_rfl) ?_)
        refine S_list0 (T_store1 (v := (Value.iface 116 (Value.pointer (some ⟨b62_, 0, none⟩)))) rfl rfl z20 rfl H64_ 2 rfl (Nat.le_of_ble_eq_true (by rfl)) ?_)
        intro w67_ S69_ H68_
        replace H68_ : Holds w67_ (cl b62_ 118 [(Value.slice (some ⟨b54_, 0, none⟩) val.size cp55_)] :: sl 5 1 (Value.slice (some ⟨b54_, 0, none⟩) val.size cp55_) val.size (bytesV (ints val)) :: cl b41_ 106 [(Value.int .i32 r), (Value.int .i32 3), (Value.slice (some ⟨b23_, 0, none⟩) key.size cp24_), (Value.iface 116 (Value.pointer (some ⟨b62_, 0, none⟩))), (Value.slice a38_ en.size cp39_)] :: ro R :: sl 5 1 (Value.slice a38_ en.size cp39_) en.size (bytesV (ints en)) :: sl 5 1 (Value.slice (some ⟨b23_, 0, none⟩) key.size cp24_) key.size (bytesV (ints key)) :: cl b2_ 31 [(Value.int .i64 3), (Value.int .i64 r), (Value.string key), (Value.string en), (Value.int .i64 n), (Value.string val), (Value.bool false)] :: F) := H68_
        have S70_ := Same.trans S66_ S69_
        refine wpList_nil ?_
        refine (X_blkN (X_then (hK48_ _ _ ?_)))
        clear hK48_
        refine C_seq (fun K71_ hK71_ => ?_)
        refine C_reg ?_
        refine S_list (T_val (v := (Value.pointer (some ⟨b41_, 0, none⟩))) (x_move rfl) ?_)
        refine S_list (T_val (v := (Value.pointer (some ⟨b41_, 0, none⟩))) (x_assign rfl) ?_)
        refine wpList_nil ?_
        refine (X_then (hK71_ _ _ ?_))
        clear hK71_
        refine C_ret ?_
        refine R_any (v := (Value.pointer (some ⟨b41_, 0, none⟩))) (run_results1 rfl rfl) ?_
        have H72_ : Holds w67_ (ro R :: cl b41_ 106 [(Value.int .i32 r), (Value.int .i32 3), (Value.slice (some ⟨b23_, 0, none⟩) key.size cp24_), (Value.iface 116 (Value.pointer (some ⟨b62_, 0, none⟩))), (Value.slice a38_ en.size cp39_)] :: cl b62_ 118 [(Value.slice (some ⟨b54_, 0, none⟩) val.size cp55_)] :: sl 5 1 (Value.slice (some ⟨b54_, 0, none⟩) val.size cp55_) val.size (bytesV (ints val)) :: F) := (Holds.erase (Holds.erase (Holds.erase (Holds.bring (Holds.bring (Holds.bring (Holds.bring H68_ 1 rfl) 1 rfl) 2 rfl) 3 rfl) 4) 4) 4)
        exact ⟨_, [cl b41_ 106 [(Value.int .i32 r), (Value.int .i32 3), (Value.slice (some ⟨b23_, 0, none⟩) key.size cp24_), (Value.iface 116 (Value.pointer (some ⟨b62_, 0, none⟩))), (Value.slice a38_ en.size cp39_)], cl b62_ 118 [(Value.slice (some ⟨b54_, 0, none⟩) val.size cp55_)], sl 5 1 (Value.slice (some ⟨b54_, 0, none⟩) val.size cp55_) val.size (bytesV (ints val))], rfl, ⟨b41_, b62_, (Value.slice (some ⟨b23_, 0, none⟩) key.size cp24_), (Value.slice a38_ en.size cp39_), (Value.slice (some ⟨b54_, 0, none⟩) val.size cp55_), rfl, rfl⟩, S70_, H72_⟩
      refine AllR.cons ?_ AllR.nil
      refine A_op (ls' := #[true, true, true, true, true, true, true, true, false, true, true, true, false, false, false]) rfl (by kernel_rfl) (T_call (al := [(Value.string en)]) (pre := []) (F := cl b2_ 31 [(Value.int .i64 3), (Value.int .i64 r), (Value.string key), (Value.string en), (Value.int .i64 n), (Value.string val), (Value.bool false)] :: F) rfl rfl cb62 (bytesOfC R en) H18_ ?_)
      rintro v76_ p77_ w73_ rfl S75_ H74_
      replace H74_ : Holds w73_ (ro R :: sl 5 1 v76_ en.size (bytesV (ints en)) :: cl b2_ 31 [(Value.int .i64 3), (Value.int .i64 r), (Value.string key), (Value.string en), (Value.int .i64 n), (Value.string val), (Value.bool false)] :: F) := H74_
      have S78_ := Same.trans S22_ S75_
      obtain ⟨-, a79_, cp80_, rfl, hle81_⟩ := Holds.sl_len H74_ 1 rfl
      refine ⟨⟨Holds.rd H74_ 2 rfl, Holds.ro_at H74_ 0 rfl⟩, ?_⟩
      refine A_ready (i := 8) (rs := []) (by kernel_rfl) ?_
      refine AllR.cons ?_ AllR.nil
      refine A_op (ls' := #[true, true, true, true, true, true, true, true, true, true, true, true, false, false, false]) rfl (by kernel_rfl) (T_s2b rfl Try.underlying9 Try.underlying25 Try.underlying5 H74_ ?_)
      intro b82_ cp83_ w84_ S86_ hc87_ H85_
      have S88_ := Same.trans S78_ S86_
      have H89_ : Holds w84_ (sl 5 1 (Value.slice (some ⟨b82_, 0, none⟩) key.size cp83_) key.size (bytesV (ints key)) :: ro R :: sl 5 1 (Value.slice a79_ en.size cp80_) en.size (bytesV (ints en)) :: cl b2_ 31 [(Value.int .i64 3), (Value.int .i64 r), (Value.string key), (Value.string en), (Value.int .i64 n), (Value.string val), (Value.bool false)] :: F) := cast2 (P := fun (c__ : List Value) (k__ : Nat) => Holds w84_ (sl 5 1 (Value.slice (some ⟨b82_, 0, none⟩) key.size cp83_) k__ c__ :: ro R :: sl 5 1 (Value.slice a79_ en.size cp80_) en.size (bytesV (ints en)) :: cl b2_ 31 [(Value.int .i64 3), (Value.int .i64 r), (Value.string key), (Value.string en), (Value.int .i64 n), (Value.string val), (Value.bool false)] :: F)) (byteCells_bytesV _ : byteCells key = bytesV (ints key)) (rfl : key.size = key.size) H85_
      refine ⟨⟨Holds.rd H89_ 3 rfl, Holds.ro_at H89_ 1 rfl⟩, ?_⟩
      refine A_take 12 (ls' := #[true, true, true, true, true, true, true, true, true, true, true, true, true, false, false]) (v := (Value.agg #[(Value.int .i32 r), (Value.int .i32 3), (Value.slice (some ⟨b82_, 0, none⟩) key.size cp83_), (Value.nilIface), (Value.slice a79_ en.size cp80_)])) rfl (by kernel_rfl) (by kernel_rfl) (by kernel_rfl) (by kernel_rfl) (fun _ _ _ h => h) (fun w hS => by kernel_rfl) ⟨Holds.rd H89_ 3 rfl, Holds.ro_at H89_ 1 rfl⟩ ?_
      refine A_ready (i := 13) (rs := []) (by kernel_rfl) ?_
      refine AllR.cons ?_ AllR.nil
      refine A_op (ls' := #[true, true, true, true, true, true, true, true, true, true, true, true, true, true, false]) rfl (by kernel_rfl) (T_box (v := (Value.agg #[(Value.int .i32 r), (Value.int .i32 3), (Value.slice (some ⟨b82_, 0, none⟩) key.size cp83_), (Value.nilIface), (Value.slice a79_ en.size cp80_)])) rfl H89_ ?_)
      intro b90_ w91_ S93_ H92_
      replace H92_ : Holds w91_ (cl b90_ 106 [(Value.int .i32 r), (Value.int .i32 3), (Value.slice (some ⟨b82_, 0, none⟩) key.size cp83_), (Value.nilIface), (Value.slice a79_ en.size cp80_)] :: sl 5 1 (Value.slice (some ⟨b82_, 0, none⟩) key.size cp83_) key.size (bytesV (ints key)) :: ro R :: sl 5 1 (Value.slice a79_ en.size cp80_) en.size (bytesV (ints en)) :: cl b2_ 31 [(Value.int .i64 3), (Value.int .i64 r), (Value.string key), (Value.string en), (Value.int .i64 n), (Value.string val), (Value.bool false)] :: F) := H92_
      have S94_ := Same.trans S88_ S93_
      refine ⟨⟨Holds.rd H92_ 4 rfl, Holds.ro_at H92_ 2 rfl⟩, ?_⟩
      refine A_take 14 (ls' := #[true, true, true, true, true, true, true, true, true, true, true, true, true, true, true]) (v := (Value.pointer (some ⟨b90_, 0, none⟩))) rfl (by kernel_rfl) (by kernel_rfl) (by kernel_rfl) (by kernel_rfl) (fun _ _ _ h => h) (fun w hS => x_assign rfl) ⟨Holds.rd H92_ 4 rfl, Holds.ro_at H92_ 2 rfl⟩ ?_
      refine A_done (by kernel_rfl) ?_
      refine (X_then (hK7_ _ _ ?_))
      clear hK7_
      refine C_seq (fun K95_ hK95_ => ?_)
      refine C_seq (fun K96_ hK96_ => ?_)
      refine C_reg ?_
      refine S_list (T_val (v := (Value.pointer (some ⟨b2_, 6, none⟩))) (by kernel_rfl) ?_)
      refine S_list (T_val (v := (Value.bool false)) (x_load1 rfl Try.underlying4 rfl ((Holds.rd H92_ 4 rfl) 6 (Value.bool false) rfl)) ?_)
      refine wpList_nil ?_
      refine (X_then (hK96_ _ _ ?_))
      clear hK96_
      refine C_condF rfl ?_
      refine C_skip (X_then (hK95_ _ _ ?_))
      clear hK95_
      refine C_seq (fun K97_ hK97_ => ?_)
      refine C_seq (fun K98_ hK98_ => ?_)
      refine C_reg ?_
      refine S_list (T_val (v := (Value.pointer (some ⟨b2_, 0, none⟩))) (by kernel_rfl) ?_)
      refine S_list (T_val (v := (Value.int .i64 3)) (x_load1 rfl Try.underlying3 rfl ((Holds.rd H92_ 4 rfl) 0 (Value.int .i64 3) rfl)) ?_)
      refine wpList_nil ?_
      refine (X_then (hK98_ _ _ ?_))
      clear hK98_
      refine C_block ?_
      refine C_seq (fun K99_ hK99_ => ?_)
      refine C_reg ?_
      refine S_list (T_val (v := (Value.bool false)) (x_bin rfl rfl rfl) ?_)
      refine S_list (T_val (v := (Value.bool false)) (x_assign rfl) ?_)
      refine wpList_nil ?_
      refine (X_then (hK99_ _ _ ?_))
      clear hK99_
      refine C_condF rfl ?_
      refine C_seq (fun K100_ hK100_ => ?_)
      refine C_reg ?_
      refine S_list (T_val (v := (Value.bool false)) (x_bin rfl rfl rfl) ?_)
      refine S_list (T_val (v := (Value.bool false)) (x_assign rfl) ?_)
      refine wpList_nil ?_
      refine (X_then (hK100_ _ _ ?_))
      clear hK100_
      refine C_condF rfl ?_
      refine C_seq (fun K101_ hK101_ => ?_)
      refine C_reg ?_
      refine S_list (T_val (v := (Value.bool false)) (x_bin rfl rfl rfl) ?_)
      refine S_list (T_val (v := (Value.bool false)) (x_assign rfl) ?_)
      refine wpList_nil ?_
      refine (X_then (hK101_ _ _ ?_))
      clear hK101_
      refine C_condF rfl ?_
      refine C_seq (fun K102_ hK102_ => ?_)
      refine C_reg ?_
      refine S_list (T_val (v := (Value.bool true)) (x_bin rfl rfl rfl) ?_)
      refine S_list (T_val (v := (Value.bool true)) (x_assign rfl) ?_)
      refine wpList_nil ?_
      refine (X_then (hK102_ _ _ ?_))
      clear hK102_
      refine C_condT rfl ?_
      refine C_reg ?_
      refine S_list (T_val (v := (Value.pointer (some ⟨b90_, 0, none⟩))) (x_move rfl) ?_)
      refine S_list (T_val (v := (Value.pointer (some ⟨b2_, 5, none⟩))) (by kernel_rfl) ?_)
      refine S_list (T_val (v := (Value.string val)) (x_load1 rfl Try.underlying9 rfl ((Holds.rd H92_ 4 rfl) 5 (Value.string val) rfl)) ?_)
      refine S_list (T_s2b rfl Try.underlying9 Try.underlying25 Try.underlying5 H92_ ?_)
      intro b103_ cp104_ w105_ S107_ hc108_ H106_
      have S109_ := Same.trans S94_ S107_
      have H110_ : Holds w105_ (sl 5 1 (Value.slice (some ⟨b103_, 0, none⟩) val.size cp104_) val.size (bytesV (ints val)) :: cl b90_ 106 [(Value.int .i32 r), (Value.int .i32 3), (Value.slice (some ⟨b82_, 0, none⟩) key.size cp83_), (Value.nilIface), (Value.slice a79_ en.size cp80_)] :: sl 5 1 (Value.slice (some ⟨b82_, 0, none⟩) key.size cp83_) key.size (bytesV (ints key)) :: ro R :: sl 5 1 (Value.slice a79_ en.size cp80_) en.size (bytesV (ints en)) :: cl b2_ 31 [(Value.int .i64 3), (Value.int .i64 r), (Value.string key), (Value.string en), (Value.int .i64 n), (Value.string val), (Value.bool false)] :: F) := cast2 (P := fun (c__ : List Value) (k__ : Nat) => Holds w105_ (sl 5 1 (Value.slice (some ⟨b103_, 0, none⟩) val.size cp104_) k__ c__ :: cl b90_ 106 [(Value.int .i32 r), (Value.int .i32 3), (Value.slice (some ⟨b82_, 0, none⟩) key.size cp83_), (Value.nilIface), (Value.slice a79_ en.size cp80_)] :: sl 5 1 (Value.slice (some ⟨b82_, 0, none⟩) key.size cp83_) key.size (bytesV (ints key)) :: ro R :: sl 5 1 (Value.slice a79_ en.size cp80_) en.size (bytesV (ints en)) :: cl b2_ 31 [(Value.int .i64 3), (Value.int .i64 r), (Value.string key), (Value.string en), (Value.int .i64 n), (Value.string val), (Value.bool false)] :: F)) (byteCells_bytesV _ : byteCells val = bytesV (ints val)) (rfl : val.size = val.size) H106_
      refine S_list (T_val (v := (Value.agg #[(Value.slice (some ⟨b103_, 0, none⟩) val.size cp104_)])) (by kernel_rfl) ?_)
      refine S_list (T_box (v := (Value.agg #[(Value.slice (some ⟨b103_, 0, none⟩) val.size cp104_)])) rfl H110_ ?_)
      intro b111_ w112_ S114_ H113_
      replace H113_ : Holds w112_ (cl b111_ 118 [(Value.slice (some ⟨b103_, 0, none⟩) val.size cp104_)] :: sl 5 1 (Value.slice (some ⟨b103_, 0, none⟩) val.size cp104_) val.size (bytesV (ints val)) :: cl b90_ 106 [(Value.int .i32 r), (Value.int .i32 3), (Value.slice (some ⟨b82_, 0, none⟩) key.size cp83_), (Value.nilIface), (Value.slice a79_ en.size cp80_)] :: sl 5 1 (Value.slice (some ⟨b82_, 0, none⟩) key.size cp83_) key.size (bytesV (ints key)) :: ro R :: sl 5 1 (Value.slice a79_ en.size cp80_) en.size (bytesV (ints en)) :: cl b2_ 31 [(Value.int .i64 3), (Value.int .i64 r), (Value.string key), (Value.string en), (Value.int .i64 n), (Value.string val), (Value.bool false)] :: F) := H113_
      have S115_ := Same.trans S109_ S114_
      refine S_list (T_val (v := (Value.iface 116 (Value.pointer (some ⟨b111_, 0, none⟩)))) (by kernel_rfl) ?_)
      refine S_list (T_val (v := (Value.pointer (some ⟨b90_, 0, none⟩))) (by kernel_rfl) ?_)
      refine S_list (T_val (v := (Value.pointer (some ⟨b90_, 3, none⟩))) (by kernel_rfl) ?_)
      refine S_list0 (T_store1 (v := (Value.iface 116 (Value.pointer (some ⟨b111_, 0, none⟩)))) rfl rfl z20 rfl H113_ 2 rfl (Nat.le_of_ble_eq_true (by rfl)) ?_)
      intro w116_ S118_ H117_
      replace H117_ : Holds w116_ (cl b111_ 118 [(Value.slice (some ⟨b103_, 0, none⟩) val.size cp104_)] :: sl 5 1 (Value.slice (some ⟨b103_, 0, none⟩) val.size cp104_) val.size (bytesV (ints val)) :: cl b90_ 106 [(Value.int .i32 r), (Value.int .i32 3), (Value.slice (some ⟨b82_, 0, none⟩) key.size cp83_), (Value.iface 116 (Value.pointer (some ⟨b111_, 0, none⟩))), (Value.slice a79_ en.size cp80_)] :: sl 5 1 (Value.slice (some ⟨b82_, 0, none⟩) key.size cp83_) key.size (bytesV (ints key)) :: ro R :: sl 5 1 (Value.slice a79_ en.size cp80_) en.size (bytesV (ints en)) :: cl b2_ 31 [(Value.int .i64 3), (Value.int .i64 r), (Value.string key), (Value.string en), (Value.int .i64 n), (Value.string val), (Value.bool false)] :: F) := H117_
      have S119_ := Same.trans S115_ S118_
      refine wpList_nil ?_
      refine (X_blkN (X_then (hK97_ _ _ ?_)))
      clear hK97_
      refine C_seq (fun K120_ hK120_ => ?_)
      refine C_reg ?_
      refine S_list (T_val (v := (Value.pointer (some ⟨b90_, 0, none⟩))) (x_move rfl) ?_)
      refine S_list (T_val (v := (Value.pointer (some ⟨b90_, 0, none⟩))) (x_assign rfl) ?_)
      refine wpList_nil ?_
      refine (X_then (hK120_ _ _ ?_))
      clear hK120_
      refine C_ret ?_
      refine R_any (v := (Value.pointer (some ⟨b90_, 0, none⟩))) (run_results1 rfl rfl) ?_
      have H121_ : Holds w116_ (ro R :: cl b90_ 106 [(Value.int .i32 r), (Value.int .i32 3), (Value.slice (some ⟨b82_, 0, none⟩) key.size cp83_), (Value.iface 116 (Value.pointer (some ⟨b111_, 0, none⟩))), (Value.slice a79_ en.size cp80_)] :: cl b111_ 118 [(Value.slice (some ⟨b103_, 0, none⟩) val.size cp104_)] :: sl 5 1 (Value.slice (some ⟨b103_, 0, none⟩) val.size cp104_) val.size (bytesV (ints val)) :: F) := (Holds.erase (Holds.erase (Holds.erase (Holds.bring (Holds.bring (Holds.bring (Holds.bring H117_ 1 rfl) 1 rfl) 2 rfl) 4 rfl) 4) 4) 4)
      exact ⟨_, [cl b90_ 106 [(Value.int .i32 r), (Value.int .i32 3), (Value.slice (some ⟨b82_, 0, none⟩) key.size cp83_), (Value.iface 116 (Value.pointer (some ⟨b111_, 0, none⟩))), (Value.slice a79_ en.size cp80_)], cl b111_ 118 [(Value.slice (some ⟨b103_, 0, none⟩) val.size cp104_)], sl 5 1 (Value.slice (some ⟨b103_, 0, none⟩) val.size cp104_) val.size (bytesV (ints val))], rfl, ⟨b90_, b111_, (Value.slice (some ⟨b82_, 0, none⟩) key.size cp83_), (Value.slice a79_ en.size cp80_), (Value.slice (some ⟨b103_, 0, none⟩) val.size cp104_), rfl, rfl⟩, S119_, H121_⟩
    refine AllR.cons ?_ AllR.nil
    refine A_op (ls' := #[true, true, true, true, true, false, true, true, true, true, true, false, false, false, false]) rfl (by kernel_rfl) (T_s2b rfl Try.underlying9 Try.underlying25 Try.underlying5 H12_ ?_)
    intro b122_ cp123_ w124_ S126_ hc127_ H125_
    have S128_ := Same.trans S16_ S126_
    have H129_ : Holds w124_ (sl 5 1 (Value.slice (some ⟨b122_, 0, none⟩) key.size cp123_) key.size (bytesV (ints key)) :: ro R :: cl b2_ 31 [(Value.int .i64 3), (Value.int .i64 r), (Value.string key), (Value.string en), (Value.int .i64 n), (Value.string val), (Value.bool false)] :: F) := cast2 (P := fun (c__ : List Value) (k__ : Nat) => Holds w124_ (sl 5 1 (Value.slice (some ⟨b122_, 0, none⟩) key.size cp123_) k__ c__ :: ro R :: cl b2_ 31 [(Value.int .i64 3), (Value.int .i64 r), (Value.string key), (Value.string en), (Value.int .i64 n), (Value.string val), (Value.bool false)] :: F)) (byteCells_bytesV _ : byteCells key = bytesV (ints key)) (rfl : key.size = key.size) H125_
    refine ⟨⟨Holds.rd H129_ 2 rfl, Holds.ro_at H129_ 1 rfl⟩, ?_⟩
    refine A_ready (i := 5) (rs := []) (by kernel_rfl) ?_
    refine AllR.cons ?_ AllR.nil
    have H130_ : Holds w124_ (ro R :: sl 5 1 (Value.slice (some ⟨b122_, 0, none⟩) key.size cp123_) key.size (bytesV (ints key)) :: cl b2_ 31 [(Value.int .i64 3), (Value.int .i64 r), (Value.string key), (Value.string en), (Value.int .i64 n), (Value.string val), (Value.bool false)] :: F) := (Holds.bring H129_ 1 rfl)
    refine A_op (ls' := #[true, true, true, true, true, true, true, true, true, true, true, false, false, false, false]) rfl (by kernel_rfl) (T_call (al := [(Value.int .i64 3)]) (pre := []) (F := sl 5 1 (Value.slice (some ⟨b122_, 0, none⟩) key.size cp123_) key.size (bytesV (ints key)) :: cl b2_ 31 [(Value.int .i64 3), (Value.int .i64 r), (Value.string key), (Value.string en), (Value.int .i64 n), (Value.string val), (Value.bool false)] :: F) rfl rfl cb61 (ordSmall R 3 (by omega) (by omega)) H130_ ?_)
    rintro v134_ p135_ w131_ ⟨rfl, rfl⟩ S133_ H132_
    replace H132_ : Holds w131_ (ro R :: sl 5 1 (Value.slice (some ⟨b122_, 0, none⟩) key.size cp123_) key.size (bytesV (ints key)) :: cl b2_ 31 [(Value.int .i64 3), (Value.int .i64 r), (Value.string key), (Value.string en), (Value.int .i64 n), (Value.string val), (Value.bool false)] :: F) := H132_
    have S136_ := Same.trans S128_ S133_
    refine ⟨⟨Holds.rd H132_ 2 rfl, Holds.ro_at H132_ 0 rfl⟩, ?_⟩
    refine A_ready (i := 11) (rs := []) (by kernel_rfl) ?_
    refine AllR.cons ?_ AllR.nil
    refine A_op (ls' := #[true, true, true, true, true, true, true, true, true, true, true, true, false, false, false]) rfl (by kernel_rfl) (T_call (al := [(Value.string en)]) (pre := []) (F := sl 5 1 (Value.slice (some ⟨b122_, 0, none⟩) key.size cp123_) key.size (bytesV (ints key)) :: cl b2_ 31 [(Value.int .i64 3), (Value.int .i64 r), (Value.string key), (Value.string en), (Value.int .i64 n), (Value.string val), (Value.bool false)] :: F) rfl rfl cb62 (bytesOfC R en) H132_ ?_)
    rintro v140_ p141_ w137_ rfl S139_ H138_
    replace H138_ : Holds w137_ (ro R :: sl 5 1 v140_ en.size (bytesV (ints en)) :: sl 5 1 (Value.slice (some ⟨b122_, 0, none⟩) key.size cp123_) key.size (bytesV (ints key)) :: cl b2_ 31 [(Value.int .i64 3), (Value.int .i64 r), (Value.string key), (Value.string en), (Value.int .i64 n), (Value.string val), (Value.bool false)] :: F) := H138_
    have S142_ := Same.trans S136_ S139_
    obtain ⟨-, a143_, cp144_, rfl, hle145_⟩ := Holds.sl_len H138_ 1 rfl
    refine ⟨⟨Holds.rd H138_ 3 rfl, Holds.ro_at H138_ 0 rfl⟩, ?_⟩
    refine A_take 12 (ls' := #[true, true, true, true, true, true, true, true, true, true, true, true, true, false, false]) (v := (Value.agg #[(Value.int .i32 r), (Value.int .i32 3), (Value.slice (some ⟨b122_, 0, none⟩) key.size cp123_), (Value.nilIface), (Value.slice a143_ en.size cp144_)])) rfl (by kernel_rfl) (by kernel_rfl) (by kernel_rfl) (by kernel_rfl) (fun _ _ _ h => h) (fun w hS => by kernel_rfl) ⟨Holds.rd H138_ 3 rfl, Holds.ro_at H138_ 0 rfl⟩ ?_
    refine A_ready (i := 13) (rs := []) (by kernel_rfl) ?_
    refine AllR.cons ?_ AllR.nil
    refine A_op (ls' := #[true, true, true, true, true, true, true, true, true, true, true, true, true, true, false]) rfl (by kernel_rfl) (T_box (v := (Value.agg #[(Value.int .i32 r), (Value.int .i32 3), (Value.slice (some ⟨b122_, 0, none⟩) key.size cp123_), (Value.nilIface), (Value.slice a143_ en.size cp144_)])) rfl H138_ ?_)
    intro b146_ w147_ S149_ H148_
    replace H148_ : Holds w147_ (cl b146_ 106 [(Value.int .i32 r), (Value.int .i32 3), (Value.slice (some ⟨b122_, 0, none⟩) key.size cp123_), (Value.nilIface), (Value.slice a143_ en.size cp144_)] :: ro R :: sl 5 1 (Value.slice a143_ en.size cp144_) en.size (bytesV (ints en)) :: sl 5 1 (Value.slice (some ⟨b122_, 0, none⟩) key.size cp123_) key.size (bytesV (ints key)) :: cl b2_ 31 [(Value.int .i64 3), (Value.int .i64 r), (Value.string key), (Value.string en), (Value.int .i64 n), (Value.string val), (Value.bool false)] :: F) := H148_
    have S150_ := Same.trans S142_ S149_
    refine ⟨⟨Holds.rd H148_ 4 rfl, Holds.ro_at H148_ 1 rfl⟩, ?_⟩
    refine A_take 14 (ls' := #[true, true, true, true, true, true, true, true, true, true, true, true, true, true, true]) (v := (Value.pointer (some ⟨b146_, 0, none⟩))) rfl (by kernel_rfl) (by kernel_rfl) (by kernel_rfl) (by kernel_rfl) (fun _ _ _ h => h) (fun w hS => x_assign rfl) ⟨Holds.rd H148_ 4 rfl, Holds.ro_at H148_ 1 rfl⟩ ?_
    refine A_done (by kernel_rfl) ?_
    refine (X_then (hK7_ _ _ ?_))
    clear hK7_
    refine C_seq (fun K151_ hK151_ => ?_)
    refine C_seq (fun K152_ hK152_ => ?_)
    refine C_reg ?_
    refine S_list (T_val (v := (Value.pointer (some ⟨b2_, 6, none⟩))) (by kernel_rfl) ?_)
    refine S_list (T_val (v := (Value.bool false)) (x_load1 rfl Try.underlying4 rfl ((Holds.rd H148_ 4 rfl) 6 (Value.bool false) rfl)) ?_)
    refine wpList_nil ?_
    refine (X_then (hK152_ _ _ ?_))
    clear hK152_
    refine C_condF rfl ?_
    refine C_skip (X_then (hK151_ _ _ ?_))
    clear hK151_
    refine C_seq (fun K153_ hK153_ => ?_)
    refine C_seq (fun K154_ hK154_ => ?_)
    refine C_reg ?_
    refine S_list (T_val (v := (Value.pointer (some ⟨b2_, 0, none⟩))) (by kernel_rfl) ?_)
    refine S_list (T_val (v := (Value.int .i64 3)) (x_load1 rfl Try.underlying3 rfl ((Holds.rd H148_ 4 rfl) 0 (Value.int .i64 3) rfl)) ?_)
    refine wpList_nil ?_
    refine (X_then (hK154_ _ _ ?_))
    clear hK154_
    refine C_block ?_
    refine C_seq (fun K155_ hK155_ => ?_)
    refine C_reg ?_
    refine S_list (T_val (v := (Value.bool false)) (x_bin rfl rfl rfl) ?_)
    refine S_list (T_val (v := (Value.bool false)) (x_assign rfl) ?_)
    refine wpList_nil ?_
    refine (X_then (hK155_ _ _ ?_))
    clear hK155_
    refine C_condF rfl ?_
    refine C_seq (fun K156_ hK156_ => ?_)
    refine C_reg ?_
    refine S_list (T_val (v := (Value.bool false)) (x_bin rfl rfl rfl) ?_)
    refine S_list (T_val (v := (Value.bool false)) (x_assign rfl) ?_)
    refine wpList_nil ?_
    refine (X_then (hK156_ _ _ ?_))
    clear hK156_
    refine C_condF rfl ?_
    refine C_seq (fun K157_ hK157_ => ?_)
    refine C_reg ?_
    refine S_list (T_val (v := (Value.bool false)) (x_bin rfl rfl rfl) ?_)
    refine S_list (T_val (v := (Value.bool false)) (x_assign rfl) ?_)
    refine wpList_nil ?_
    refine (X_then (hK157_ _ _ ?_))
    clear hK157_
    refine C_condF rfl ?_
    refine C_seq (fun K158_ hK158_ => ?_)
    refine C_reg ?_
    refine S_list (T_val (v := (Value.bool true)) (x_bin rfl rfl rfl) ?_)
    refine S_list (T_val (v := (Value.bool true)) (x_assign rfl) ?_)
    refine wpList_nil ?_
    refine (X_then (hK158_ _ _ ?_))
    clear hK158_
    refine C_condT rfl ?_
    refine C_reg ?_
    refine S_list (T_val (v := (Value.pointer (some ⟨b146_, 0, none⟩))) (x_move rfl) ?_)
    refine S_list (T_val (v := (Value.pointer (some ⟨b2_, 5, none⟩))) (by kernel_rfl) ?_)
    refine S_list (T_val (v := (Value.string val)) (x_load1 rfl Try.underlying9 rfl ((Holds.rd H148_ 4 rfl) 5 (Value.string val) rfl)) ?_)
    refine S_list (T_s2b rfl Try.underlying9 Try.underlying25 Try.underlying5 H148_ ?_)
    intro b159_ cp160_ w161_ S163_ hc164_ H162_
    have S165_ := Same.trans S150_ S163_
    have H166_ : Holds w161_ (sl 5 1 (Value.slice (some ⟨b159_, 0, none⟩) val.size cp160_) val.size (bytesV (ints val)) :: cl b146_ 106 [(Value.int .i32 r), (Value.int .i32 3), (Value.slice (some ⟨b122_, 0, none⟩) key.size cp123_), (Value.nilIface), (Value.slice a143_ en.size cp144_)] :: ro R :: sl 5 1 (Value.slice a143_ en.size cp144_) en.size (bytesV (ints en)) :: sl 5 1 (Value.slice (some ⟨b122_, 0, none⟩) key.size cp123_) key.size (bytesV (ints key)) :: cl b2_ 31 [(Value.int .i64 3), (Value.int .i64 r), (Value.string key), (Value.string en), (Value.int .i64 n), (Value.string val), (Value.bool false)] :: F) := cast2 (P := fun (c__ : List Value) (k__ : Nat) => Holds w161_ (sl 5 1 (Value.slice (some ⟨b159_, 0, none⟩) val.size cp160_) k__ c__ :: cl b146_ 106 [(Value.int .i32 r), (Value.int .i32 3), (Value.slice (some ⟨b122_, 0, none⟩) key.size cp123_), (Value.nilIface), (Value.slice a143_ en.size cp144_)] :: ro R :: sl 5 1 (Value.slice a143_ en.size cp144_) en.size (bytesV (ints en)) :: sl 5 1 (Value.slice (some ⟨b122_, 0, none⟩) key.size cp123_) key.size (bytesV (ints key)) :: cl b2_ 31 [(Value.int .i64 3), (Value.int .i64 r), (Value.string key), (Value.string en), (Value.int .i64 n), (Value.string val), (Value.bool false)] :: F)) (byteCells_bytesV _ : byteCells val = bytesV (ints val)) (rfl : val.size = val.size) H162_
    refine S_list (T_val (v := (Value.agg #[(Value.slice (some ⟨b159_, 0, none⟩) val.size cp160_)])) (by kernel_rfl) ?_)
    refine S_list (T_box (v := (Value.agg #[(Value.slice (some ⟨b159_, 0, none⟩) val.size cp160_)])) rfl H166_ ?_)
    intro b167_ w168_ S170_ H169_
    replace H169_ : Holds w168_ (cl b167_ 118 [(Value.slice (some ⟨b159_, 0, none⟩) val.size cp160_)] :: sl 5 1 (Value.slice (some ⟨b159_, 0, none⟩) val.size cp160_) val.size (bytesV (ints val)) :: cl b146_ 106 [(Value.int .i32 r), (Value.int .i32 3), (Value.slice (some ⟨b122_, 0, none⟩) key.size cp123_), (Value.nilIface), (Value.slice a143_ en.size cp144_)] :: ro R :: sl 5 1 (Value.slice a143_ en.size cp144_) en.size (bytesV (ints en)) :: sl 5 1 (Value.slice (some ⟨b122_, 0, none⟩) key.size cp123_) key.size (bytesV (ints key)) :: cl b2_ 31 [(Value.int .i64 3), (Value.int .i64 r), (Value.string key), (Value.string en), (Value.int .i64 n), (Value.string val), (Value.bool false)] :: F) := H169_
    have S171_ := Same.trans S165_ S170_
    refine S_list (T_val (v := (Value.iface 116 (Value.pointer (some ⟨b167_, 0, none⟩)))) (by kernel_rfl) ?_)
    refine S_list (T_val (v := (Value.pointer (some ⟨b146_, 0, none⟩))) (by kernel_rfl) ?_)
    refine S_list (T_val (v := (Value.pointer (some ⟨b146_, 3, none⟩))) (by kernel_rfl) ?_)
    refine S_list0 (T_store1 (v := (Value.iface 116 (Value.pointer (some ⟨b167_, 0, none⟩)))) rfl rfl z20 rfl H169_ 2 rfl (Nat.le_of_ble_eq_true (by rfl)) ?_)
    intro w172_ S174_ H173_
    replace H173_ : Holds w172_ (cl b167_ 118 [(Value.slice (some ⟨b159_, 0, none⟩) val.size cp160_)] :: sl 5 1 (Value.slice (some ⟨b159_, 0, none⟩) val.size cp160_) val.size (bytesV (ints val)) :: cl b146_ 106 [(Value.int .i32 r), (Value.int .i32 3), (Value.slice (some ⟨b122_, 0, none⟩) key.size cp123_), (Value.iface 116 (Value.pointer (some ⟨b167_, 0, none⟩))), (Value.slice a143_ en.size cp144_)] :: ro R :: sl 5 1 (Value.slice a143_ en.size cp144_) en.size (bytesV (ints en)) :: sl 5 1 (Value.slice (some ⟨b122_, 0, none⟩) key.size cp123_) key.size (bytesV (ints key)) :: cl b2_ 31 [(Value.int .i64 3), (Value.int .i64 r), (Value.string key), (Value.string en), (Value.int .i64 n), (Value.string val), (Value.bool false)] :: F) := H173_
    have S175_ := Same.trans S171_ S174_
    refine wpList_nil ?_
    refine (X_blkN (X_then (hK153_ _ _ ?_)))
    clear hK153_
    refine C_seq (fun K176_ hK176_ => ?_)
    refine C_reg ?_
    refine S_list (T_val (v := (Value.pointer (some ⟨b146_, 0, none⟩))) (x_move rfl) ?_)
    refine S_list (T_val (v := (Value.pointer (some ⟨b146_, 0, none⟩))) (x_assign rfl) ?_)
    refine wpList_nil ?_
    refine (X_then (hK176_ _ _ ?_))
    clear hK176_
    refine C_ret ?_
    refine R_any (v := (Value.pointer (some ⟨b146_, 0, none⟩))) (run_results1 rfl rfl) ?_
    have H177_ : Holds w172_ (ro R :: cl b146_ 106 [(Value.int .i32 r), (Value.int .i32 3), (Value.slice (some ⟨b122_, 0, none⟩) key.size cp123_), (Value.iface 116 (Value.pointer (some ⟨b167_, 0, none⟩))), (Value.slice a143_ en.size cp144_)] :: cl b167_ 118 [(Value.slice (some ⟨b159_, 0, none⟩) val.size cp160_)] :: sl 5 1 (Value.slice (some ⟨b159_, 0, none⟩) val.size cp160_) val.size (bytesV (ints val)) :: F) := (Holds.erase (Holds.erase (Holds.erase (Holds.bring (Holds.bring (Holds.bring (Holds.bring H173_ 1 rfl) 1 rfl) 2 rfl) 3 rfl) 4) 4) 4)
    exact ⟨_, [cl b146_ 106 [(Value.int .i32 r), (Value.int .i32 3), (Value.slice (some ⟨b122_, 0, none⟩) key.size cp123_), (Value.iface 116 (Value.pointer (some ⟨b167_, 0, none⟩))), (Value.slice a143_ en.size cp144_)], cl b167_ 118 [(Value.slice (some ⟨b159_, 0, none⟩) val.size cp160_)], sl 5 1 (Value.slice (some ⟨b159_, 0, none⟩) val.size cp160_) val.size (bytesV (ints val))], rfl, ⟨b146_, b167_, (Value.slice (some ⟨b122_, 0, none⟩) key.size cp123_), (Value.slice a143_ en.size cp144_), (Value.slice (some ⟨b159_, 0, none⟩) val.size cp160_), rfl, rfl⟩, S175_, H177_⟩
  refine AllR.cons ?_ AllR.nil
  refine A_op (ls' := #[true, true, false, true, true, false, true, true, true, true, true, false, false, false, false]) rfl (by kernel_rfl) (T_s2b rfl Try.underlying9 Try.underlying25 Try.underlying5 H9_ ?_)
  intro b178_ cp179_ w180_ S182_ hc183_ H181_
  have S184_ := Same.trans (Same.trans S6_ (Same.drew _)) S182_
  have H185_ : Holds w180_ (sl 5 1 (Value.slice (some ⟨b178_, 0, none⟩) key.size cp179_) key.size (bytesV (ints key)) :: cl b2_ 31 [(Value.int .i64 3), (Value.int .i64 r), (Value.string key), (Value.string en), (Value.int .i64 n), (Value.string val), (Value.bool false)] :: ro R :: F) := cast2 (P := fun (c__ : List Value) (k__ : Nat) => Holds w180_ (sl 5 1 (Value.slice (some ⟨b178_, 0, none⟩) key.size cp179_) k__ c__ :: cl b2_ 31 [(Value.int .i64 3), (Value.int .i64 r), (Value.string key), (Value.string en), (Value.int .i64 n), (Value.string val), (Value.bool false)] :: ro R :: F)) (byteCells_bytesV _ : byteCells key = bytesV (ints key)) (rfl : key.size = key.size) H181_
  refine ⟨⟨Holds.rd H185_ 1 rfl, Holds.ro_at H185_ 2 rfl⟩, ?_⟩
  refine A_ready (i := 2) (rs := []) (by kernel_rfl) ?_
  refine AllR.cons ?_ AllR.nil
  have H186_ : Holds w180_ (ro R :: sl 5 1 (Value.slice (some ⟨b178_, 0, none⟩) key.size cp179_) key.size (bytesV (ints key)) :: cl b2_ 31 [(Value.int .i64 3), (Value.int .i64 r), (Value.string key), (Value.string en), (Value.int .i64 n), (Value.string val), (Value.bool false)] :: F) := (Holds.bring H185_ 2 rfl)
  refine A_op (ls' := #[true, true, true, true, true, false, true, true, true, true, true, false, false, false, false]) rfl (by kernel_rfl) (T_call (al := [(Value.int .i64 r)]) (pre := []) (F := sl 5 1 (Value.slice (some ⟨b178_, 0, none⟩) key.size cp179_) key.size (bytesV (ints key)) :: cl b2_ 31 [(Value.int .i64 3), (Value.int .i64 r), (Value.string key), (Value.string en), (Value.int .i64 n), (Value.string val), (Value.bool false)] :: F) rfl rfl cb61 (ordSmall R r (by omega) (by omega)) H186_ ?_)
  rintro v190_ p191_ w187_ ⟨rfl, rfl⟩ S189_ H188_
  replace H188_ : Holds w187_ (ro R :: sl 5 1 (Value.slice (some ⟨b178_, 0, none⟩) key.size cp179_) key.size (bytesV (ints key)) :: cl b2_ 31 [(Value.int .i64 3), (Value.int .i64 r), (Value.string key), (Value.string en), (Value.int .i64 n), (Value.string val), (Value.bool false)] :: F) := H188_
  have S192_ := Same.trans S184_ S189_
  refine ⟨⟨Holds.rd H188_ 2 rfl, Holds.ro_at H188_ 0 rfl⟩, ?_⟩
  refine A_ready (i := 5) (rs := []) (by kernel_rfl) ?_
  refine AllR.cons ?_ AllR.nil
  refine A_op (ls' := #[true, true, true, true, true, true, true, true, true, true, true, false, false, false, false]) rfl (by kernel_rfl) (T_call (al := [(Value.int .i64 3)]) (pre := []) (F := sl 5 1 (Value.slice (some ⟨b178_, 0, none⟩) key.size cp179_) key.size (bytesV (ints key)) :: cl b2_ 31 [(Value.int .i64 3), (Value.int .i64 r), (Value.string key), (Value.string en), (Value.int .i64 n), (Value.string val), (Value.bool false)] :: F) rfl rfl cb61 (ordSmall R 3 (by omega) (by omega)) H188_ ?_)
  rintro v196_ p197_ w193_ ⟨rfl, rfl⟩ S195_ H194_
  replace H194_ : Holds w193_ (ro R :: sl 5 1 (Value.slice (some ⟨b178_, 0, none⟩) key.size cp179_) key.size (bytesV (ints key)) :: cl b2_ 31 [(Value.int .i64 3), (Value.int .i64 r), (Value.string key), (Value.string en), (Value.int .i64 n), (Value.string val), (Value.bool false)] :: F) := H194_
  have S198_ := Same.trans S192_ S195_
  refine ⟨⟨Holds.rd H194_ 2 rfl, Holds.ro_at H194_ 0 rfl⟩, ?_⟩
  refine A_ready (i := 11) (rs := []) (by kernel_rfl) ?_
  refine AllR.cons ?_ AllR.nil
  refine A_op (ls' := #[true, true, true, true, true, true, true, true, true, true, true, true, false, false, false]) rfl (by kernel_rfl) (T_call (al := [(Value.string en)]) (pre := []) (F := sl 5 1 (Value.slice (some ⟨b178_, 0, none⟩) key.size cp179_) key.size (bytesV (ints key)) :: cl b2_ 31 [(Value.int .i64 3), (Value.int .i64 r), (Value.string key), (Value.string en), (Value.int .i64 n), (Value.string val), (Value.bool false)] :: F) rfl rfl cb62 (bytesOfC R en) H194_ ?_)
  rintro v202_ p203_ w199_ rfl S201_ H200_
  replace H200_ : Holds w199_ (ro R :: sl 5 1 v202_ en.size (bytesV (ints en)) :: sl 5 1 (Value.slice (some ⟨b178_, 0, none⟩) key.size cp179_) key.size (bytesV (ints key)) :: cl b2_ 31 [(Value.int .i64 3), (Value.int .i64 r), (Value.string key), (Value.string en), (Value.int .i64 n), (Value.string val), (Value.bool false)] :: F) := H200_
  have S204_ := Same.trans S198_ S201_
  obtain ⟨-, a205_, cp206_, rfl, hle207_⟩ := Holds.sl_len H200_ 1 rfl
  refine ⟨⟨Holds.rd H200_ 3 rfl, Holds.ro_at H200_ 0 rfl⟩, ?_⟩
  refine A_take 12 (ls' := #[true, true, true, true, true, true, true, true, true, true, true, true, true, false, false]) (v := (Value.agg #[(Value.int .i32 r), (Value.int .i32 3), (Value.slice (some ⟨b178_, 0, none⟩) key.size cp179_), (Value.nilIface), (Value.slice a205_ en.size cp206_)])) rfl (by kernel_rfl) (by kernel_rfl) (by kernel_rfl) (by kernel_rfl) (fun _ _ _ h => h) (fun w hS => by kernel_rfl) ⟨Holds.rd H200_ 3 rfl, Holds.ro_at H200_ 0 rfl⟩ ?_
  refine A_ready (i := 13) (rs := []) (by kernel_rfl) ?_
  refine AllR.cons ?_ AllR.nil
  refine A_op (ls' := #[true, true, true, true, true, true, true, true, true, true, true, true, true, true, false]) rfl (by kernel_rfl) (T_box (v := (Value.agg #[(Value.int .i32 r), (Value.int .i32 3), (Value.slice (some ⟨b178_, 0, none⟩) key.size cp179_), (Value.nilIface), (Value.slice a205_ en.size cp206_)])) rfl H200_ ?_)
  intro b208_ w209_ S211_ H210_
  replace H210_ : Holds w209_ (cl b208_ 106 [(Value.int .i32 r), (Value.int .i32 3), (Value.slice (some ⟨b178_, 0, none⟩) key.size cp179_), (Value.nilIface), (Value.slice a205_ en.size cp206_)] :: ro R :: sl 5 1 (Value.slice a205_ en.size cp206_) en.size (bytesV (ints en)) :: sl 5 1 (Value.slice (some ⟨b178_, 0, none⟩) key.size cp179_) key.size (bytesV (ints key)) :: cl b2_ 31 [(Value.int .i64 3), (Value.int .i64 r), (Value.string key), (Value.string en), (Value.int .i64 n), (Value.string val), (Value.bool false)] :: F) := H210_
  have S212_ := Same.trans S204_ S211_
  refine ⟨⟨Holds.rd H210_ 4 rfl, Holds.ro_at H210_ 1 rfl⟩, ?_⟩
  refine A_take 14 (ls' := #[true, true, true, true, true, true, true, true, true, true, true, true, true, true, true]) (v := (Value.pointer (some ⟨b208_, 0, none⟩))) rfl (by kernel_rfl) (by kernel_rfl) (by kernel_rfl) (by kernel_rfl) (fun _ _ _ h => h) (fun w hS => x_assign rfl) ⟨Holds.rd H210_ 4 rfl, Holds.ro_at H210_ 1 rfl⟩ ?_
  refine A_done (by kernel_rfl) ?_
  refine (X_then (hK7_ _ _ ?_))
  clear hK7_
  refine C_seq (fun K213_ hK213_ => ?_)
  refine C_seq (fun K214_ hK214_ => ?_)
  refine C_reg ?_
  refine S_list (T_val (v := (Value.pointer (some ⟨b2_, 6, none⟩))) (by kernel_rfl) ?_)
  refine S_list (T_val (v := (Value.bool false)) (x_load1 rfl Try.underlying4 rfl ((Holds.rd H210_ 4 rfl) 6 (Value.bool false) rfl)) ?_)
  refine wpList_nil ?_
  refine (X_then (hK214_ _ _ ?_))
  clear hK214_
  refine C_condF rfl ?_
  refine C_skip (X_then (hK213_ _ _ ?_))
  clear hK213_
  refine C_seq (fun K215_ hK215_ => ?_)
  refine C_seq (fun K216_ hK216_ => ?_)
  refine C_reg ?_
  refine S_list (T_val (v := (Value.pointer (some ⟨b2_, 0, none⟩))) (by kernel_rfl) ?_)
  refine S_list (T_val (v := (Value.int .i64 3)) (x_load1 rfl Try.underlying3 rfl ((Holds.rd H210_ 4 rfl) 0 (Value.int .i64 3) rfl)) ?_)
  refine wpList_nil ?_
  refine (X_then (hK216_ _ _ ?_))
  clear hK216_
  refine C_block ?_
  refine C_seq (fun K217_ hK217_ => ?_)
  refine C_reg ?_
  refine S_list (T_val (v := (Value.bool false)) (x_bin rfl rfl rfl) ?_)
  refine S_list (T_val (v := (Value.bool false)) (x_assign rfl) ?_)
  refine wpList_nil ?_
  refine (X_then (hK217_ _ _ ?_))
  clear hK217_
  refine C_condF rfl ?_
  refine C_seq (fun K218_ hK218_ => ?_)
  refine C_reg ?_
  refine S_list (T_val (v := (Value.bool false)) (x_bin rfl rfl rfl) ?_)
  refine S_list (T_val (v := (Value.bool false)) (x_assign rfl) ?_)
  refine wpList_nil ?_
  refine (X_then (hK218_ _ _ ?_))
  clear hK218_
  refine C_condF rfl ?_
  refine C_seq (fun K219_ hK219_ => ?_)
  refine C_reg ?_
  refine S_list (T_val (v := (Value.bool false)) (x_bin rfl rfl rfl) ?_)
  refine S_list (T_val (v := (Value.bool false)) (x_assign rfl) ?_)
  refine wpList_nil ?_
  refine (X_then (hK219_ _ _ ?_))
  clear hK219_
  refine C_condF rfl ?_
  refine C_seq (fun K220_ hK220_ => ?_)
  refine C_reg ?_
  refine S_list (T_val (v := (Value.bool true)) (x_bin rfl rfl rfl) ?_)
  refine S_list (T_val (v := (Value.bool true)) (x_assign rfl) ?_)
  refine wpList_nil ?_
  refine (X_then (hK220_ _ _ ?_))
  clear hK220_
  refine C_condT rfl ?_
  refine C_reg ?_
  refine S_list (T_val (v := (Value.pointer (some ⟨b208_, 0, none⟩))) (x_move rfl) ?_)
  refine S_list (T_val (v := (Value.pointer (some ⟨b2_, 5, none⟩))) (by kernel_rfl) ?_)
  refine S_list (T_val (v := (Value.string val)) (x_load1 rfl Try.underlying9 rfl ((Holds.rd H210_ 4 rfl) 5 (Value.string val) rfl)) ?_)
  refine S_list (T_s2b rfl Try.underlying9 Try.underlying25 Try.underlying5 H210_ ?_)
  intro b221_ cp222_ w223_ S225_ hc226_ H224_
  have S227_ := Same.trans S212_ S225_
  have H228_ : Holds w223_ (sl 5 1 (Value.slice (some ⟨b221_, 0, none⟩) val.size cp222_) val.size (bytesV (ints val)) :: cl b208_ 106 [(Value.int .i32 r), (Value.int .i32 3), (Value.slice (some ⟨b178_, 0, none⟩) key.size cp179_), (Value.nilIface), (Value.slice a205_ en.size cp206_)] :: ro R :: sl 5 1 (Value.slice a205_ en.size cp206_) en.size (bytesV (ints en)) :: sl 5 1 (Value.slice (some ⟨b178_, 0, none⟩) key.size cp179_) key.size (bytesV (ints key)) :: cl b2_ 31 [(Value.int .i64 3), (Value.int .i64 r), (Value.string key), (Value.string en), (Value.int .i64 n), (Value.string val), (Value.bool false)] :: F) := cast2 (P := fun (c__ : List Value) (k__ : Nat) => Holds w223_ (sl 5 1 (Value.slice (some ⟨b221_, 0, none⟩) val.size cp222_) k__ c__ :: cl b208_ 106 [(Value.int .i32 r), (Value.int .i32 3), (Value.slice (some ⟨b178_, 0, none⟩) key.size cp179_), (Value.nilIface), (Value.slice a205_ en.size cp206_)] :: ro R :: sl 5 1 (Value.slice a205_ en.size cp206_) en.size (bytesV (ints en)) :: sl 5 1 (Value.slice (some ⟨b178_, 0, none⟩) key.size cp179_) key.size (bytesV (ints key)) :: cl b2_ 31 [(Value.int .i64 3), (Value.int .i64 r), (Value.string key), (Value.string en), (Value.int .i64 n), (Value.string val), (Value.bool false)] :: F)) (byteCells_bytesV _ : byteCells val = bytesV (ints val)) (rfl : val.size = val.size) H224_
  refine S_list (T_val (v := (Value.agg #[(Value.slice (some ⟨b221_, 0, none⟩) val.size cp222_)])) (by kernel_rfl) ?_)
  refine S_list (T_box (v := (Value.agg #[(Value.slice (some ⟨b221_, 0, none⟩) val.size cp222_)])) rfl H228_ ?_)
  intro b229_ w230_ S232_ H231_
  replace H231_ : Holds w230_ (cl b229_ 118 [(Value.slice (some ⟨b221_, 0, none⟩) val.size cp222_)] :: sl 5 1 (Value.slice (some ⟨b221_, 0, none⟩) val.size cp222_) val.size (bytesV (ints val)) :: cl b208_ 106 [(Value.int .i32 r), (Value.int .i32 3), (Value.slice (some ⟨b178_, 0, none⟩) key.size cp179_), (Value.nilIface), (Value.slice a205_ en.size cp206_)] :: ro R :: sl 5 1 (Value.slice a205_ en.size cp206_) en.size (bytesV (ints en)) :: sl 5 1 (Value.slice (some ⟨b178_, 0, none⟩) key.size cp179_) key.size (bytesV (ints key)) :: cl b2_ 31 [(Value.int .i64 3), (Value.int .i64 r), (Value.string key), (Value.string en), (Value.int .i64 n), (Value.string val), (Value.bool false)] :: F) := H231_
  have S233_ := Same.trans S227_ S232_
  refine S_list (T_val (v := (Value.iface 116 (Value.pointer (some ⟨b229_, 0, none⟩)))) (by kernel_rfl) ?_)
  refine S_list (T_val (v := (Value.pointer (some ⟨b208_, 0, none⟩))) (by kernel_rfl) ?_)
  refine S_list (T_val (v := (Value.pointer (some ⟨b208_, 3, none⟩))) (by kernel_rfl) ?_)
  refine S_list0 (T_store1 (v := (Value.iface 116 (Value.pointer (some ⟨b229_, 0, none⟩)))) rfl rfl z20 rfl H231_ 2 rfl (Nat.le_of_ble_eq_true (by rfl)) ?_)
  intro w234_ S236_ H235_
  replace H235_ : Holds w234_ (cl b229_ 118 [(Value.slice (some ⟨b221_, 0, none⟩) val.size cp222_)] :: sl 5 1 (Value.slice (some ⟨b221_, 0, none⟩) val.size cp222_) val.size (bytesV (ints val)) :: cl b208_ 106 [(Value.int .i32 r), (Value.int .i32 3), (Value.slice (some ⟨b178_, 0, none⟩) key.size cp179_), (Value.iface 116 (Value.pointer (some ⟨b229_, 0, none⟩))), (Value.slice a205_ en.size cp206_)] :: ro R :: sl 5 1 (Value.slice a205_ en.size cp206_) en.size (bytesV (ints en)) :: sl 5 1 (Value.slice (some ⟨b178_, 0, none⟩) key.size cp179_) key.size (bytesV (ints key)) :: cl b2_ 31 [(Value.int .i64 3), (Value.int .i64 r), (Value.string key), (Value.string en), (Value.int .i64 n), (Value.string val), (Value.bool false)] :: F) := H235_
  have S237_ := Same.trans S233_ S236_
  refine wpList_nil ?_
  refine (X_blkN (X_then (hK215_ _ _ ?_)))
  clear hK215_
  refine C_seq (fun K238_ hK238_ => ?_)
  refine C_reg ?_
  refine S_list (T_val (v := (Value.pointer (some ⟨b208_, 0, none⟩))) (x_move rfl) ?_)
  refine S_list (T_val (v := (Value.pointer (some ⟨b208_, 0, none⟩))) (x_assign rfl) ?_)
  refine wpList_nil ?_
  refine (X_then (hK238_ _ _ ?_))
  clear hK238_
  refine C_ret ?_
  refine R_any (v := (Value.pointer (some ⟨b208_, 0, none⟩))) (run_results1 rfl rfl) ?_
  have H239_ : Holds w234_ (ro R :: cl b208_ 106 [(Value.int .i32 r), (Value.int .i32 3), (Value.slice (some ⟨b178_, 0, none⟩) key.size cp179_), (Value.iface 116 (Value.pointer (some ⟨b229_, 0, none⟩))), (Value.slice a205_ en.size cp206_)] :: cl b229_ 118 [(Value.slice (some ⟨b221_, 0, none⟩) val.size cp222_)] :: sl 5 1 (Value.slice (some ⟨b221_, 0, none⟩) val.size cp222_) val.size (bytesV (ints val)) :: F) := (Holds.erase (Holds.erase (Holds.erase (Holds.bring (Holds.bring (Holds.bring (Holds.bring H235_ 1 rfl) 1 rfl) 2 rfl) 3 rfl) 4) 4) 4)
  exact ⟨_, [cl b208_ 106 [(Value.int .i32 r), (Value.int .i32 3), (Value.slice (some ⟨b178_, 0, none⟩) key.size cp179_), (Value.iface 116 (Value.pointer (some ⟨b229_, 0, none⟩))), (Value.slice a205_ en.size cp206_)], cl b229_ 118 [(Value.slice (some ⟨b221_, 0, none⟩) val.size cp222_)], sl 5 1 (Value.slice (some ⟨b221_, 0, none⟩) val.size cp222_) val.size (bytesV (ints val))], rfl, ⟨b208_, b229_, (Value.slice (some ⟨b178_, 0, none⟩) key.size cp179_), (Value.slice a205_ en.size cp206_), (Value.slice (some ⟨b221_, 0, none⟩) val.size cp222_), rfl, rfl⟩, S237_, H239_⟩

set_option maxHeartbeats 400000 in
theorem cmpIn4t (R : HP) (r : Int) (key en : ByteArray) (n : Int) (val : ByteArray) (h0 : 0 ≤ r) (h1 : r ≤ 3) :
    Tri Try.prog 36 #[(Value.agg #[(Value.int .i64 4), (Value.int .i64 r), (Value.string key), (Value.string en), (Value.int .i64 n), (Value.string val), (Value.bool true)])] R [] (fun v post => ∃ c K E, v = .pointer (some ⟨c, 0, none⟩) ∧ post = [cl c 106 [.int .i32 r, .int .i32 4, K, .nilIface, E]]) := by
  refine Tri.into (n := 75) (al := [(Value.agg #[(Value.int .i64 4), (Value.int .i64 r), (Value.string key), (Value.string en), (Value.int .i64 n), (Value.string val), (Value.bool true)])]) Try.func36 rfl Try.ntmps36 rfl rfl fun w F H => ?_
  replace H : Holds w (ro R :: F) := H
  refine C_seq (fun K1_ hK1_ => ?_)
  refine C_reg ?_
  refine S_list (T_box (v := (Value.agg #[(Value.int .i64 4), (Value.int .i64 r), (Value.string key), (Value.string en), (Value.int .i64 n), (Value.string val), (Value.bool true)])) rfl H ?_)
  intro b2_ w3_ S5_ H4_
  replace H4_ : Holds w3_ (cl b2_ 31 [(Value.int .i64 4), (Value.int .i64 r), (Value.string key), (Value.string en), (Value.int .i64 n), (Value.string val), (Value.bool true)] :: ro R :: F) := H4_
  have S6_ := Same.trans (Same.refl w) S5_
  refine S_list (T_val (v := (Value.pointer none)) (x_assign rfl) ?_)
  refine wpList_nil ?_
  refine (X_then (hK1_ _ _ ?_))
  clear hK1_
  refine C_seq (fun K7_ hK7_ => ?_)
  refine A_start (S := fun w => Rd b2_ [(Value.int .i64 4), (Value.int .i64 r), (Value.string key), (Value.string en), (Value.int .i64 n), (Value.string val), (Value.bool true)] w ∧ Sub R (hp w)) (N := 15) foll rfl rfl ?_
  have H9_ : Holds w3_.drew (cl b2_ 31 [(Value.int .i64 4), (Value.int .i64 r), (Value.string key), (Value.string en), (Value.int .i64 n), (Value.string val), (Value.bool true)] :: ro R :: F) := H4_
  refine A_take 0 (ls' := #[true, false, false, false, false, false, false, false, false, false, false, false, false, false, false]) (v := (Value.pointer (some ⟨b2_, 1, none⟩))) rfl (by kernel_rfl) (by kernel_rfl) (by kernel_rfl) (by kernel_rfl) (fun _ _ _ h => h) (fun w hS => by kernel_rfl) ⟨Holds.rd H9_ 0 rfl, Holds.ro_at H9_ 1 rfl⟩ ?_
  refine A_take 1 (ls' := #[true, true, false, false, false, false, false, false, false, false, false, false, false, false, false]) (v := (Value.int .i64 r)) rfl (by kernel_rfl) (by kernel_rfl) (by kernel_rfl) (by kernel_rfl) (fun _ _ _ h => h) (fun w hS => x_load1 rfl Try.underlying3 rfl (hS.1 1 (Value.int .i64 r) rfl)) ⟨Holds.rd H9_ 0 rfl, Holds.ro_at H9_ 1 rfl⟩ ?_
  refine A_take 3 (ls' := #[true, true, false, true, false, false, false, false, false, false, false, false, false, false, false]) (v := (Value.pointer (some ⟨b2_, 0, none⟩))) rfl (by kernel_rfl) (by kernel_rfl) (by kernel_rfl) (by kernel_rfl) (fun _ _ _ h => h) (fun w hS => by kernel_rfl) ⟨Holds.rd H9_ 0 rfl, Holds.ro_at H9_ 1 rfl⟩ ?_
  refine A_take 4 (ls' := #[true, true, false, true, true, false, false, false, false, false, false, false, false, false, false]) (v := (Value.int .i64 4)) rfl (by kernel_rfl) (by kernel_rfl) (by kernel_rfl) (by kernel_rfl) (fun _ _ _ h => h) (fun w hS => x_load1 rfl Try.underlying3 rfl (hS.1 0 (Value.int .i64 4) rfl)) ⟨Holds.rd H9_ 0 rfl, Holds.ro_at H9_ 1 rfl⟩ ?_
  refine A_take 6 (ls' := #[true, true, false, true, true, false, true, false, false, false, false, false, false, false, false]) (v := (Value.pointer (some ⟨b2_, 2, none⟩))) rfl (by kernel_rfl) (by kernel_rfl) (by kernel_rfl) (by kernel_rfl) (fun _ _ _ h => h) (fun w hS => by kernel_rfl) ⟨Holds.rd H9_ 0 rfl, Holds.ro_at H9_ 1 rfl⟩ ?_
  refine A_take 7 (ls' := #[true, true, false, true, true, false, true, true, false, false, false, false, false, false, false]) (v := (Value.string key)) rfl (by kernel_rfl) (by kernel_rfl) (by kernel_rfl) (by kernel_rfl) (fun _ _ _ h => h) (fun w hS => x_load1 rfl Try.underlying9 rfl (hS.1 2 (Value.string key) rfl)) ⟨Holds.rd H9_ 0 rfl, Holds.ro_at H9_ 1 rfl⟩ ?_
  refine A_take 9 (ls' := #[true, true, false, true, true, false, true, true, false, true, false, false, false, false, false]) (v := (Value.pointer (some ⟨b2_, 3, none⟩))) rfl (by kernel_rfl) (by kernel_rfl) (by kernel_rfl) (by kernel_rfl) (fun _ _ _ h => h) (fun w hS => by kernel_rfl) ⟨Holds.rd H9_ 0 rfl, Holds.ro_at H9_ 1 rfl⟩ ?_
  refine A_take 10 (ls' := #[true, true, false, true, true, false, true, true, false, true, true, false, false, false, false]) (v := (Value.string en)) rfl (by kernel_rfl) (by kernel_rfl) (by kernel_rfl) (by kernel_rfl) (fun _ _ _ h => h) (fun w hS => x_load1 rfl Try.underlying9 rfl (hS.1 3 (Value.string en) rfl)) ⟨Holds.rd H9_ 0 rfl, Holds.ro_at H9_ 1 rfl⟩ ?_
  refine A_ready (i := 2) (rs := [8]) (by kernel_rfl) ?_
  refine AllR.cons ?_ ?_
  · skip
    have H10_ : Holds w3_.drew (ro R :: cl b2_ 31 [(Value.int .i64 4), (Value.int .i64 r), (Value.string key), (Value.string en), (Value.int .i64 n), (Value.string val), (Value.bool true)] :: F) := (Holds.bring H9_ 1 rfl)
    refine A_op (ls' := #[true, true, true, true, true, false, true, true, false, true, true, false, false, false, false]) rfl (by kernel_rfl) (T_call (al := [(Value.int .i64 r)]) (pre := []) (F := cl b2_ 31 [(Value.int .i64 4), (Value.int .i64 r), (Value.string key), (Value.string en), (Value.int .i64 n), (Value.string val), (Value.bool true)] :: F) rfl rfl cb61 (ordSmall R r (by omega) (by omega)) H10_ ?_)
    rintro v14_ p15_ w11_ ⟨rfl, rfl⟩ S13_ H12_
    replace H12_ : Holds w11_ (ro R :: cl b2_ 31 [(Value.int .i64 4), (Value.int .i64 r), (Value.string key), (Value.string en), (Value.int .i64 n), (Value.string val), (Value.bool true)] :: F) := H12_
    have S16_ := Same.trans (Same.trans S6_ (Same.drew _)) S13_
    refine ⟨⟨Holds.rd H12_ 1 rfl, Holds.ro_at H12_ 0 rfl⟩, ?_⟩
    refine A_ready (i := 5) (rs := [8]) (by kernel_rfl) ?_
    refine AllR.cons ?_ ?_
    · skip
      refine A_op (ls' := #[true, true, true, true, true, true, true, true, false, true, true, false, false, false, false]) rfl (by kernel_rfl) (T_call (al := [(Value.int .i64 4)]) (pre := []) (F := cl b2_ 31 [(Value.int .i64 4), (Value.int .i64 r), (Value.string key), (Value.string en), (Value.int .i64 n), (Value.string val), (Value.bool true)] :: F) rfl rfl cb61 (ordSmall R 4 (by omega) (by omega)) H12_ ?_)
      rintro v20_ p21_ w17_ ⟨rfl, rfl⟩ S19_ H18_
      replace H18_ : Holds w17_ (ro R :: cl b2_ 31 [(Value.int .i64 4), (Value.int .i64 r), (Value.string key), (Value.string en), (Value.int .i64 n), (Value.string val), (Value.bool true)] :: F) := H18_
      have S22_ := Same.trans S16_ S19_
      refine ⟨⟨Holds.rd H18_ 1 rfl, Holds.ro_at H18_ 0 rfl⟩, ?_⟩
      refine A_ready (i := 8) (rs := [11]) (by kernel_rfl) ?_
      refine AllR.cons ?_ ?_
      · skip
        refine A_op (ls' := #[true, true, true, true, true, true, true, true, true, true, true, false, false, false, false]) rfl (by kernel_rfl) (T_s2b rfl Try.underlying9 Try.underlying25 Try.underlying5 H18_ ?_)
        intro b23_ cp24_ w25_ S27_ hc28_ H26_
        have S29_ := Same.trans S22_ S27_
        have H30_ : Holds w25_ (sl 5 1 (Value.slice (some ⟨b23_, 0, none⟩) key.size cp24_) key.size (bytesV (ints key)) :: ro R :: cl b2_ 31 [(Value.int .i64 4), (Value.int .i64 r), (Value.string key), (Value.string en), (Value.int .i64 n), (Value.string val), (Value.bool true)] :: F) := cast2 (P := fun (c__ : List Value) (k__ : Nat) => Holds w25_ (sl 5 1 (Value.slice (some ⟨b23_, 0, none⟩) key.size cp24_) k__ c__ :: ro R :: cl b2_ 31 [(Value.int .i64 4), (Value.int .i64 r), (Value.string key), (Value.string en), (Value.int .i64 n), (Value.string val), (Value.bool true)] :: F)) (byteCells_bytesV _ : byteCells key = bytesV (ints key)) (rfl : key.size = key.size) H26_
        refine ⟨⟨Holds.rd H30_ 2 rfl, Holds.ro_at H30_ 1 rfl⟩, ?_⟩
        refine A_ready (i := 11) (rs := []) (by kernel_rfl) ?_
        refine AllR.cons ?_ AllR.nil
        have H31_ : Holds w25_ (ro R :: sl 5 1 (Value.slice (some ⟨b23_, 0, none⟩) key.size cp24_) key.size (bytesV (ints key)) :: cl b2_ 31 [(Value.int .i64 4), (Value.int .i64 r), (Value.string key), (Value.string en), (Value.int .i64 n), (Value.string val), (Value.bool true)] :: F) := (Holds.bring H30_ 1 rfl)
        refine A_op (ls' := #[true, true, true, true, true, true, true, true, true, true, true, true, false, false, false]) rfl (by kernel_rfl) (T_call (al := [(Value.string en)]) (pre := []) (F := sl 5 1 (Value.slice (some ⟨b23_, 0, none⟩) key.size cp24_) key.size (bytesV (ints key)) :: cl b2_ 31 [(Value.int .i64 4), (Value.int .i64 r), (Value.string key), (Value.string en), (Value.int .i64 n), (Value.string val), (Value.bool true)] :: F) rfl rfl cb62 (bytesOfC R en) H31_ ?_)
        rintro v35_ p36_ w32_ rfl S34_ H33_
        replace H33_ : Holds w32_ (ro R :: sl 5 1 v35_ en.size (bytesV (ints en)) :: sl 5 1 (Value.slice (some ⟨b23_, 0, none⟩) key.size cp24_) key.size (bytesV (ints key)) :: cl b2_ 31 [(Value.int .i64 4), (Value.int .i64 r), (Value.string key), (Value.string en), (Value.int .i64 n), (Value.string val), (Value.bool true)] :: F) := H33_
        have S37_ := Same.trans S29_ S34_
        obtain ⟨-, a38_, cp39_, rfl, hle40_⟩ := Holds.sl_len H33_ 1 rfl
        refine ⟨⟨Holds.rd H33_ 3 rfl, Holds.ro_at H33_ 0 rfl⟩, ?_⟩
        refine A_take 12 (ls' := #[true, true, true, true, true, true, true, true, true, true, true, true, true, false, false]) (v := (Value.agg #[(Value.int .i32 r), (Value.int .i32 4), (Value.slice (some ⟨b23_, 0, none⟩) key.size cp24_), (Value.nilIface), (Value.slice a38_ en.size cp39_)])) rfl (by kernel_rfl) (by kernel_rfl) (by kernel_rfl) (by kernel_rfl) (fun _ _ _ h => h) (fun w hS => by kernel_rfl) ⟨Holds.rd H33_ 3 rfl, Holds.ro_at H33_ 0 rfl⟩ ?_
        refine A_ready (i := 13) (rs := []) (by kernel_rfl) ?_
        refine AllR.cons ?_ AllR.nil
        refine A_op (ls' := #[true, true, true, true, true, true, true, true, true, true, true, true, true, true, false]) rfl (by kernel_rfl) (T_box (v := (Value.agg #[(Value.int .i32 r), (Value.int .i32 4), (Value.slice (some ⟨b23_, 0, none⟩) key.size cp24_), (Value.nilIface), (Value.slice a38_ en.size cp39_)])) rfl H33_ ?_)
        intro b41_ w42_ S44_ H43_
        replace H43_ : Holds w42_ (cl b41_ 106 [(Value.int .i32 r), (Value.int .i32 4), (Value.slice (some ⟨b23_, 0, none⟩) key.size cp24_), (Value.nilIface), (Value.slice a38_ en.size cp39_)] :: ro R :: sl 5 1 (Value.slice a38_ en.size cp39_) en.size (bytesV (ints en)) :: sl 5 1 (Value.slice (some ⟨b23_, 0, none⟩) key.size cp24_) key.size (bytesV (ints key)) :: cl b2_ 31 [(Value.int .i64 4), (Value.int .i64 r), (Value.string key), (Value.string en), (Value.int .i64 n), (Value.string val), (Value.bool true)] :: F) := H43_
        have S45_ := Same.trans S37_ S44_
        refine ⟨⟨Holds.rd H43_ 4 rfl, Holds.ro_at H43_ 1 rfl⟩, ?_⟩
        refine A_take 14 (ls' := #[true, true, true, true, true, true, true, true, true, true, true, true, true, true, true]) (v := (Value.pointer (some ⟨b41_, 0, none⟩))) rfl (by kernel_rfl) (by kernel_rfl) (by kernel_rfl) (by kernel_rfl) (fun _ _ _ h => h) (fun w hS => x_assign rfl) ⟨Holds.rd H43_ 4 rfl, Holds.ro_at H43_ 1 rfl⟩ ?_
        refine A_done (by kernel_rfl) ?_
        refine (X_then (hK7_ _ _ ?_))
        clear hK7_
        refine C_seq (fun K46_ hK46_ => ?_)
        refine C_seq (fun K47_ hK47_ => ?_)
        refine C_reg ?_
        refine S_list (T_val (v := (Value.pointer (some ⟨b2_, 6, none⟩))) (by kernel_rfl) ?_)
        refine S_list (T_val (v := (Value.bool true)) (x_load1 rfl Try.underlying4 rfl ((Holds.rd H43_ 4 rfl) 6 (Value.bool true) rfl)) ?_)
        refine wpList_nil ?_
        refine (X_then (hK47_ _ _ ?_))
        clear hK47_
        refine C_condT rfl ?_
        refine C_seq (fun K48_ hK48_ => ?_)
        refine C_reg ?_
        refine S_list (T_val (v := (Value.pointer (some ⟨b41_, 0, none⟩))) (x_move rfl) ?_)
        refine S_list (T_val (v := (Value.pointer (some ⟨b41_, 0, none⟩))) (x_assign rfl) ?_)
        refine wpList_nil ?_
        refine (X_then (hK48_ _ _ ?_))
        clear hK48_
        refine C_ret (X_thenR ?_)
        refine R_any (v := (Value.pointer (some ⟨b41_, 0, none⟩))) (run_results1 rfl rfl) ?_
        have H49_ : Holds w42_ (ro R :: cl b41_ 106 [(Value.int .i32 r), (Value.int .i32 4), (Value.slice (some ⟨b23_, 0, none⟩) key.size cp24_), (Value.nilIface), (Value.slice a38_ en.size cp39_)] :: F) := (Holds.erase (Holds.erase (Holds.erase (Holds.bring (Holds.bring H43_ 0 rfl) 1 rfl) 2) 2) 2)
        exact ⟨_, [cl b41_ 106 [(Value.int .i32 r), (Value.int .i32 4), (Value.slice (some ⟨b23_, 0, none⟩) key.size cp24_), (Value.nilIface), (Value.slice a38_ en.size cp39_)]], rfl, ⟨b41_, (Value.slice (some ⟨b23_, 0, none⟩) key.size cp24_), (Value.slice a38_ en.size cp39_), rfl, rfl⟩, S45_, H49_⟩
      refine AllR.cons ?_ AllR.nil
      refine A_op (ls' := #[true, true, true, true, true, true, true, true, false, true, true, true, false, false, false]) rfl (by kernel_rfl) (T_call (al := [(Value.string en)]) (pre := []) (F := cl b2_ 31 [(Value.int .i64 4), (Value.int .i64 r), (Value.string key), (Value.string en), (Value.int .i64 n), (Value.string val), (Value.bool true)] :: F) rfl rfl cb62 (bytesOfC R en) H18_ ?_)
      rintro v53_ p54_ w50_ rfl S52_ H51_
      replace H51_ : Holds w50_ (ro R :: sl 5 1 v53_ en.size (bytesV (ints en)) :: cl b2_ 31 [(Value.int .i64 4), (Value.int .i64 r), (Value.string key), (Value.string en), (Value.int .i64 n), (Value.string val), (Value.bool true)] :: F) := H51_
      have S55_ := Same.trans S22_ S52_
      obtain ⟨-, a56_, cp57_, rfl, hle58_⟩ := Holds.sl_len H51_ 1 rfl
      refine ⟨⟨Holds.rd H51_ 2 rfl, Holds.ro_at H51_ 0 rfl⟩, ?_⟩
      refine A_ready (i := 8) (rs := []) (by kernel_rfl) ?_
      refine AllR.cons ?_ AllR.nil
      refine A_op (ls' := #[true, true, true, true, true, true, true, true, true, true, true, true, false, false, false]) rfl (by kernel_rfl) (T_s2b rfl Try.underlying9 Try.underlying25 Try.underlying5 H51_ ?_)
      intro b59_ cp60_ w61_ S63_ hc64_ H62_
      have S65_ := Same.trans S55_ S63_
      have H66_ : Holds w61_ (sl 5 1 (Value.slice (some ⟨b59_, 0, none⟩) key.size cp60_) key.size (bytesV (ints key)) :: ro R :: sl 5 1 (Value.slice a56_ en.size cp57_) en.size (bytesV (ints en)) :: cl b2_ 31 [(Value.int .i64 4), (Value.int .i64 r), (Value.string key), (Value.string en), (Value.int .i64 n), (Value.string val), (Value.bool true)] :: F) := cast2 (P := fun (c__ : List Value) (k__ : Nat) => Holds w61_ (sl 5 1 (Value.slice (some ⟨b59_, 0, none⟩) key.size cp60_) k__ c__ :: ro R :: sl 5 1 (Value.slice a56_ en.size cp57_) en.size (bytesV (ints en)) :: cl b2_ 31 [(Value.int .i64 4), (Value.int .i64 r), (Value.string key), (Value.string en), (Value.int .i64 n), (Value.string val), (Value.bool true)] :: F)) (byteCells_bytesV _ : byteCells key = bytesV (ints key)) (rfl : key.size = key.size) H62_
      refine ⟨⟨Holds.rd H66_ 3 rfl, Holds.ro_at H66_ 1 rfl⟩, ?_⟩
      refine A_take 12 (ls' := #[true, true, true, true, true, true, true, true, true, true, true, true, true, false, false]) (v := (Value.agg #[(Value.int .i32 r), (Value.int .i32 4), (Value.slice (some ⟨b59_, 0, none⟩) key.size cp60_), (Value.nilIface), (Value.slice a56_ en.size cp57_)])) rfl (by kernel_rfl) (by kernel_rfl) (by kernel_rfl) (by kernel_rfl) (fun _ _ _ h => h) (fun w hS => by kernel_rfl) ⟨Holds.rd H66_ 3 rfl, Holds.ro_at H66_ 1 rfl⟩ ?_
      refine A_ready (i := 13) (rs := []) (by kernel_rfl) ?_
      refine AllR.cons ?_ AllR.nil
      refine A_op (ls' := #[true, true, true, true, true, true, true, true, true, true, true, true, true, true, false]) rfl (by kernel_rfl) (T_box (v := (Value.agg #[(Value.int .i32 r), (Value.int .i32 4), (Value.slice (some ⟨b59_, 0, none⟩) key.size cp60_), (Value.nilIface), (Value.slice a56_ en.size cp57_)])) rfl H66_ ?_)
      intro b67_ w68_ S70_ H69_
      replace H69_ : Holds w68_ (cl b67_ 106 [(Value.int .i32 r), (Value.int .i32 4), (Value.slice (some ⟨b59_, 0, none⟩) key.size cp60_), (Value.nilIface), (Value.slice a56_ en.size cp57_)] :: sl 5 1 (Value.slice (some ⟨b59_, 0, none⟩) key.size cp60_) key.size (bytesV (ints key)) :: ro R :: sl 5 1 (Value.slice a56_ en.size cp57_) en.size (bytesV (ints en)) :: cl b2_ 31 [(Value.int .i64 4), (Value.int .i64 r), (Value.string key), (Value.string en), (Value.int .i64 n), (Value.string val), (Value.bool true)] :: F) := H69_
      have S71_ := Same.trans S65_ S70_
      refine ⟨⟨Holds.rd H69_ 4 rfl, Holds.ro_at H69_ 2 rfl⟩, ?_⟩
      refine A_take 14 (ls' := #[true, true, true, true, true, true, true, true, true, true, true, true, true, true, true]) (v := (Value.pointer (some ⟨b67_, 0, none⟩))) rfl (by kernel_rfl) (by kernel_rfl) (by kernel_rfl) (by kernel_rfl) (fun _ _ _ h => h) (fun w hS => x_assign rfl) ⟨Holds.rd H69_ 4 rfl, Holds.ro_at H69_ 2 rfl⟩ ?_
      refine A_done (by kernel_rfl) ?_
      refine (X_then (hK7_ _ _ ?_))
      clear hK7_
      refine C_seq (fun K72_ hK72_ => ?_)
      refine C_seq (fun K73_ hK73_ => ?_)
      refine C_reg ?_
      refine S_list (T_val (v := (Value.pointer (some ⟨b2_, 6, none⟩))) (by kernel_rfl) ?_)
      refine S_list (T_val (v := (Value.bool true)) (x_load1 rfl Try.underlying4 rfl ((Holds.rd H69_ 4 rfl) 6 (Value.bool true) rfl)) ?_)
      refine wpList_nil ?_
      refine (X_then (hK73_ _ _ ?_))
      clear hK73_
      refine C_condT rfl ?_
      refine C_seq (fun K74_ hK74_ => ?_)
      refine C_reg ?_
      refine S_list (T_val (v := (Value.pointer (some ⟨b67_, 0, none⟩))) (x_move rfl) ?_)
      refine S_list (T_val (v := (Value.pointer (some ⟨b67_, 0, none⟩))) (x_assign rfl) ?_)
      refine wpList_nil ?_
      refine (X_then (hK74_ _ _ ?_))
      clear hK74_
      refine C_ret (X_thenR ?_)
      refine R_any (v := (Value.pointer (some ⟨b67_, 0, none⟩))) (run_results1 rfl rfl) ?_
      have H75_ : Holds w68_ (ro R :: cl b67_ 106 [(Value.int .i32 r), (Value.int .i32 4), (Value.slice (some ⟨b59_, 0, none⟩) key.size cp60_), (Value.nilIface), (Value.slice a56_ en.size cp57_)] :: F) := (Holds.erase (Holds.erase (Holds.erase (Holds.bring (Holds.bring H69_ 0 rfl) 2 rfl) 2) 2) 2)
      exact ⟨_, [cl b67_ 106 [(Value.int .i32 r), (Value.int .i32 4), (Value.slice (some ⟨b59_, 0, none⟩) key.size cp60_), (Value.nilIface), (Value.slice a56_ en.size cp57_)]], rfl, ⟨b67_, (Value.slice (some ⟨b59_, 0, none⟩) key.size cp60_), (Value.slice a56_ en.size cp57_), rfl, rfl⟩, S71_, H75_⟩
    refine AllR.cons ?_ AllR.nil
    refine A_op (ls' := #[true, true, true, true, true, false, true, true, true, true, true, false, false, false, false]) rfl (by kernel_rfl) (T_s2b rfl Try.underlying9 Try.underlying25 Try.underlying5 H12_ ?_)
    intro b76_ cp77_ w78_ S80_ hc81_ H79_
    have S82_ := Same.trans S16_ S80_
    have H83_ : Holds w78_ (sl 5 1 (Value.slice (some ⟨b76_, 0, none⟩) key.size cp77_) key.size (bytesV (ints key)) :: ro R :: cl b2_ 31 [(Value.int .i64 4), (Value.int .i64 r), (Value.string key), (Value.string en), (Value.int .i64 n), (Value.string val), (Value.bool true)] :: F) := cast2 (P := fun (c__ : List Value) (k__ : Nat) => Holds w78_ (sl 5 1 (Value.slice (some ⟨b76_, 0, none⟩) key.size cp77_) k__ c__ :: ro R :: cl b2_ 31 [(Value.int .i64 4), (Value.int .i64 r), (Value.string key), (Value.string en), (Value.int .i64 n), (Value.string val), (Value.bool true)] :: F)) (byteCells_bytesV _ : byteCells key = bytesV (ints key)) (rfl : key.size = key.size) H79_
    refine ⟨⟨Holds.rd H83_ 2 rfl, Holds.ro_at H83_ 1 rfl⟩, ?_⟩
    refine A_ready (i := 5) (rs := []) (by kernel_rfl) ?_
    refine AllR.cons ?_ AllR.nil
    have H84_ : Holds w78_ (ro R :: sl 5 1 (Value.slice (some ⟨b76_, 0, none⟩) key.size cp77_) key.size (bytesV (ints key)) :: cl b2_ 31 [(Value.int .i64 4), (Value.int .i64 r), (Value.string key), (Value.string en), (Value.int .i64 n), (Value.string val), (Value.bool true)] :: F) := (Holds.bring H83_ 1 rfl)
    refine A_op (ls' := #[true, true, true, true, true, true, true, true, true, true, true, false, false, false, false]) rfl (by kernel_rfl) (T_call (al := [(Value.int .i64 4)]) (pre := []) (F := sl 5 1 (Value.slice (some ⟨b76_, 0, none⟩) key.size cp77_) key.size (bytesV (ints key)) :: cl b2_ 31 [(Value.int .i64 4), (Value.int .i64 r), (Value.string key), (Value.string en), (Value.int .i64 n), (Value.string val), (Value.bool true)] :: F) rfl rfl cb61 (ordSmall R 4 (by omega) (by omega)) H84_ ?_)
    rintro v88_ p89_ w85_ ⟨rfl, rfl⟩ S87_ H86_
    replace H86_ : Holds w85_ (ro R :: sl 5 1 (Value.slice (some ⟨b76_, 0, none⟩) key.size cp77_) key.size (bytesV (ints key)) :: cl b2_ 31 [(Value.int .i64 4), (Value.int .i64 r), (Value.string key), (Value.string en), (Value.int .i64 n), (Value.string val), (Value.bool true)] :: F) := H86_
    have S90_ := Same.trans S82_ S87_
    refine ⟨⟨Holds.rd H86_ 2 rfl, Holds.ro_at H86_ 0 rfl⟩, ?_⟩
    refine A_ready (i := 11) (rs := []) (by kernel_rfl) ?_
    refine AllR.cons ?_ AllR.nil
    refine A_op (ls' := #[true, true, true, true, true, true, true, true, true, true, true, true, false, false, false]) rfl (by kernel_rfl) (T_call (al := [(Value.string en)]) (pre := []) (F := sl 5 1 (Value.slice (some ⟨b76_, 0, none⟩) key.size cp77_) key.size (bytesV (ints key)) :: cl b2_ 31 [(Value.int .i64 4), (Value.int .i64 r), (Value.string key), (Value.string en), (Value.int .i64 n), (Value.string val), (Value.bool true)] :: F) rfl rfl cb62 (bytesOfC R en) H86_ ?_)
    rintro v94_ p95_ w91_ rfl S93_ H92_
    replace H92_ : Holds w91_ (ro R :: sl 5 1 v94_ en.size (bytesV (ints en)) :: sl 5 1 (Value.slice (some ⟨b76_, 0, none⟩) key.size cp77_) key.size (bytesV (ints key)) :: cl b2_ 31 [(Value.int .i64 4), (Value.int .i64 r), (Value.string key), (Value.string en), (Value.int .i64 n), (Value.string val), (Value.bool true)] :: F) := H92_
    have S96_ := Same.trans S90_ S93_
    obtain ⟨-, a97_, cp98_, rfl, hle99_⟩ := Holds.sl_len H92_ 1 rfl
    refine ⟨⟨Holds.rd H92_ 3 rfl, Holds.ro_at H92_ 0 rfl⟩, ?_⟩
    refine A_take 12 (ls' := #[true, true, true, true, true, true, true, true, true, true, true, true, true, false, false]) (v := (Value.agg #[(Value.int .i32 r), (Value.int .i32 4), (Value.slice (some ⟨b76_, 0, none⟩) key.size cp77_), (Value.nilIface), (Value.slice a97_ en.size cp98_)])) rfl (by kernel_rfl) (by kernel_rfl) (by kernel_rfl) (by kernel_rfl) (fun _ _ _ h => h) (fun w hS => by kernel_rfl) ⟨Holds.rd H92_ 3 rfl, Holds.ro_at H92_ 0 rfl⟩ ?_
    refine A_ready (i := 13) (rs := []) (by kernel_rfl) ?_
    refine AllR.cons ?_ AllR.nil
    refine A_op (ls' := #[true, true, true, true, true, true, true, true, true, true, true, true, true, true, false]) rfl (by kernel_rfl) (T_box (v := (Value.agg #[(Value.int .i32 r), (Value.int .i32 4), (Value.slice (some ⟨b76_, 0, none⟩) key.size cp77_), (Value.nilIface), (Value.slice a97_ en.size cp98_)])) rfl H92_ ?_)
    intro b100_ w101_ S103_ H102_
    replace H102_ : Holds w101_ (cl b100_ 106 [(Value.int .i32 r), (Value.int .i32 4), (Value.slice (some ⟨b76_, 0, none⟩) key.size cp77_), (Value.nilIface), (Value.slice a97_ en.size cp98_)] :: ro R :: sl 5 1 (Value.slice a97_ en.size cp98_) en.size (bytesV (ints en)) :: sl 5 1 (Value.slice (some ⟨b76_, 0, none⟩) key.size cp77_) key.size (bytesV (ints key)) :: cl b2_ 31 [(Value.int .i64 4), (Value.int .i64 r), (Value.string key), (Value.string en), (Value.int .i64 n), (Value.string val), (Value.bool true)] :: F) := H102_
    have S104_ := Same.trans S96_ S103_
    refine ⟨⟨Holds.rd H102_ 4 rfl, Holds.ro_at H102_ 1 rfl⟩, ?_⟩
    refine A_take 14 (ls' := #[true, true, true, true, true, true, true, true, true, true, true, true, true, true, true]) (v := (Value.pointer (some ⟨b100_, 0, none⟩))) rfl (by kernel_rfl) (by kernel_rfl) (by kernel_rfl) (by kernel_rfl) (fun _ _ _ h => h) (fun w hS => x_assign rfl) ⟨Holds.rd H102_ 4 rfl, Holds.ro_at H102_ 1 rfl⟩ ?_
    refine A_done (by kernel_rfl) ?_
    refine (X_then (hK7_ _ _ ?_))
    clear hK7_
    refine C_seq (fun K105_ hK105_ => ?_)
    refine C_seq (fun K106_ hK106_ => ?_)
    refine C_reg ?_
    refine S_list (T_val (v := (Value.pointer (some ⟨b2_, 6, none⟩))) (by kernel_rfl) ?_)
    refine S_list (T_val (v := (Value.bool true)) (x_load1 rfl Try.underlying4 rfl ((Holds.rd H102_ 4 rfl) 6 (Value.bool true) rfl)) ?_)
    refine wpList_nil ?_
    refine (X_then (hK106_ _ _ ?_))
    clear hK106_
    refine C_condT rfl ?_
    refine C_seq (fun K107_ hK107_ => ?_)
    refine C_reg ?_
    refine S_list (T_val (v := (Value.pointer (some ⟨b100_, 0, none⟩))) (x_move rfl) ?_)
    refine S_list (T_val (v := (Value.pointer (some ⟨b100_, 0, none⟩))) (x_assign rfl) ?_)
    refine wpList_nil ?_
    refine (X_then (hK107_ _ _ ?_))
    clear hK107_
    refine C_ret (X_thenR ?_)
    refine R_any (v := (Value.pointer (some ⟨b100_, 0, none⟩))) (run_results1 rfl rfl) ?_
    have H108_ : Holds w101_ (ro R :: cl b100_ 106 [(Value.int .i32 r), (Value.int .i32 4), (Value.slice (some ⟨b76_, 0, none⟩) key.size cp77_), (Value.nilIface), (Value.slice a97_ en.size cp98_)] :: F) := (Holds.erase (Holds.erase (Holds.erase (Holds.bring (Holds.bring H102_ 0 rfl) 1 rfl) 2) 2) 2)
    exact ⟨_, [cl b100_ 106 [(Value.int .i32 r), (Value.int .i32 4), (Value.slice (some ⟨b76_, 0, none⟩) key.size cp77_), (Value.nilIface), (Value.slice a97_ en.size cp98_)]], rfl, ⟨b100_, (Value.slice (some ⟨b76_, 0, none⟩) key.size cp77_), (Value.slice a97_ en.size cp98_), rfl, rfl⟩, S104_, H108_⟩
  refine AllR.cons ?_ AllR.nil
  refine A_op (ls' := #[true, true, false, true, true, false, true, true, true, true, true, false, false, false, false]) rfl (by kernel_rfl) (T_s2b rfl Try.underlying9 Try.underlying25 Try.underlying5 H9_ ?_)
  intro b109_ cp110_ w111_ S113_ hc114_ H112_
  have S115_ := Same.trans (Same.trans S6_ (Same.drew _)) S113_
  have H116_ : Holds w111_ (sl 5 1 (Value.slice (some ⟨b109_, 0, none⟩) key.size cp110_) key.size (bytesV (ints key)) :: cl b2_ 31 [(Value.int .i64 4), (Value.int .i64 r), (Value.string key), (Value.string en), (Value.int .i64 n), (Value.string val), (Value.bool true)] :: ro R :: F) := cast2 (P := fun (c__ : List Value) (k__ : Nat) => Holds w111_ (sl 5 1 (Value.slice (some ⟨b109_, 0, none⟩) key.size cp110_) k__ c__ :: cl b2_ 31 [(Value.int .i64 4), (Value.int .i64 r), (Value.string key), (Value.string en), (Value.int .i64 n), (Value.string val), (Value.bool true)] :: ro R :: F)) (byteCells_bytesV _ : byteCells key = bytesV (ints key)) (rfl : key.size = key.size) H112_
  refine ⟨⟨Holds.rd H116_ 1 rfl, Holds.ro_at H116_ 2 rfl⟩, ?_⟩
  refine A_ready (i := 2) (rs := []) (by kernel_rfl) ?_
  refine AllR.cons ?_ AllR.nil
  have H117_ : Holds w111_ (ro R :: sl 5 1 (Value.slice (some ⟨b109_, 0, none⟩) key.size cp110_) key.size (bytesV (ints key)) :: cl b2_ 31 [(Value.int .i64 4), (Value.int .i64 r), (Value.string key), (Value.string en), (Value.int .i64 n), (Value.string val), (Value.bool true)] :: F) := (Holds.bring H116_ 2 rfl)
  refine A_op (ls' := #[true, true, true, true, true, false, true, true, true, true, true, false, false, false, false]) rfl (by kernel_rfl) (T_call (al := [(Value.int .i64 r)]) (pre := []) (F := sl 5 1 (Value.slice (some ⟨b109_, 0, none⟩) key.size cp110_) key.size (bytesV (ints key)) :: cl b2_ 31 [(Value.int .i64 4), (Value.int .i64 r), (Value.string key), (Value.string en), (Value.int .i64 n), (Value.string val), (Value.bool true)] :: F) rfl rfl cb61 (ordSmall R r (by omega) (by omega)) H117_ ?_)
  rintro v121_ p122_ w118_ ⟨rfl, rfl⟩ S120_ H119_
  replace H119_ : Holds w118_ (ro R :: sl 5 1 (Value.slice (some ⟨b109_, 0, none⟩) key.size cp110_) key.size (bytesV (ints key)) :: cl b2_ 31 [(Value.int .i64 4), (Value.int .i64 r), (Value.string key), (Value.string en), (Value.int .i64 n), (Value.string val), (Value.bool true)] :: F) := H119_
  have S123_ := Same.trans S115_ S120_
  refine ⟨⟨Holds.rd H119_ 2 rfl, Holds.ro_at H119_ 0 rfl⟩, ?_⟩
  refine A_ready (i := 5) (rs := []) (by kernel_rfl) ?_
  refine AllR.cons ?_ AllR.nil
  refine A_op (ls' := #[true, true, true, true, true, true, true, true, true, true, true, false, false, false, false]) rfl (by kernel_rfl) (T_call (al := [(Value.int .i64 4)]) (pre := []) (F := sl 5 1 (Value.slice (some ⟨b109_, 0, none⟩) key.size cp110_) key.size (bytesV (ints key)) :: cl b2_ 31 [(Value.int .i64 4), (Value.int .i64 r), (Value.string key), (Value.string en), (Value.int .i64 n), (Value.string val), (Value.bool true)] :: F) rfl rfl cb61 (ordSmall R 4 (by omega) (by omega)) H119_ ?_)
  rintro v127_ p128_ w124_ ⟨rfl, rfl⟩ S126_ H125_
  replace H125_ : Holds w124_ (ro R :: sl 5 1 (Value.slice (some ⟨b109_, 0, none⟩) key.size cp110_) key.size (bytesV (ints key)) :: cl b2_ 31 [(Value.int .i64 4), (Value.int .i64 r), (Value.string key), (Value.string en), (Value.int .i64 n), (Value.string val), (Value.bool true)] :: F) := H125_
  have S129_ := Same.trans S123_ S126_
  refine ⟨⟨Holds.rd H125_ 2 rfl, Holds.ro_at H125_ 0 rfl⟩, ?_⟩
  refine A_ready (i := 11) (rs := []) (by kernel_rfl) ?_
  refine AllR.cons ?_ AllR.nil
  refine A_op (ls' := #[true, true, true, true, true, true, true, true, true, true, true, true, false, false, false]) rfl (by kernel_rfl) (T_call (al := [(Value.string en)]) (pre := []) (F := sl 5 1 (Value.slice (some ⟨b109_, 0, none⟩) key.size cp110_) key.size (bytesV (ints key)) :: cl b2_ 31 [(Value.int .i64 4), (Value.int .i64 r), (Value.string key), (Value.string en), (Value.int .i64 n), (Value.string val), (Value.bool true)] :: F) rfl rfl cb62 (bytesOfC R en) H125_ ?_)
  rintro v133_ p134_ w130_ rfl S132_ H131_
  replace H131_ : Holds w130_ (ro R :: sl 5 1 v133_ en.size (bytesV (ints en)) :: sl 5 1 (Value.slice (some ⟨b109_, 0, none⟩) key.size cp110_) key.size (bytesV (ints key)) :: cl b2_ 31 [(Value.int .i64 4), (Value.int .i64 r), (Value.string key), (Value.string en), (Value.int .i64 n), (Value.string val), (Value.bool true)] :: F) := H131_
  have S135_ := Same.trans S129_ S132_
  obtain ⟨-, a136_, cp137_, rfl, hle138_⟩ := Holds.sl_len H131_ 1 rfl
  refine ⟨⟨Holds.rd H131_ 3 rfl, Holds.ro_at H131_ 0 rfl⟩, ?_⟩
  refine A_take 12 (ls' := #[true, true, true, true, true, true, true, true, true, true, true, true, true, false, false]) (v := (Value.agg #[(Value.int .i32 r), (Value.int .i32 4), (Value.slice (some ⟨b109_, 0, none⟩) key.size cp110_), (Value.nilIface), (Value.slice a136_ en.size cp137_)])) rfl (by kernel_rfl) (by kernel_rfl) (by kernel_rfl) (by kernel_rfl) (fun _ _ _ h => h) (fun w hS => by kernel_rfl) ⟨Holds.rd H131_ 3 rfl, Holds.ro_at H131_ 0 rfl⟩ ?_
  refine A_ready (i := 13) (rs := []) (by kernel_rfl) ?_
  refine AllR.cons ?_ AllR.nil
  refine A_op (ls' := #[true, true, true, true, true, true, true, true, true, true, true, true, true, true, false]) rfl (by kernel_rfl) (T_box (v := (Value.agg #[(Value.int .i32 r), (Value.int .i32 4), (Value.slice (some ⟨b109_, 0, none⟩) key.size cp110_), (Value.nilIface), (Value.slice a136_ en.size cp137_)])) rfl H131_ ?_)
  intro b139_ w140_ S142_ H141_
  replace H141_ : Holds w140_ (cl b139_ 106 [(Value.int .i32 r), (Value.int .i32 4), (Value.slice (some ⟨b109_, 0, none⟩) key.size cp110_), (Value.nilIface), (Value.slice a136_ en.size cp137_)] :: ro R :: sl 5 1 (Value.slice a136_ en.size cp137_) en.size (bytesV (ints en)) :: sl 5 1 (Value.slice (some ⟨b109_, 0, none⟩) key.size cp110_) key.size (bytesV (ints key)) :: cl b2_ 31 [(Value.int .i64 4), (Value.int .i64 r), (Value.string key), (Value.string en), (Value.int .i64 n), (Value.string val), (Value.bool true)] :: F) := H141_
  have S143_ := Same.trans S135_ S142_
  refine ⟨⟨Holds.rd H141_ 4 rfl, Holds.ro_at H141_ 1 rfl⟩, ?_⟩
  refine A_take 14 (ls' := #[true, true, true, true, true, true, true, true, true, true, true, true, true, true, true]) (v := (Value.pointer (some ⟨b139_, 0, none⟩))) rfl (by kernel_rfl) (by kernel_rfl) (by kernel_rfl) (by kernel_rfl) (fun _ _ _ h => h) (fun w hS => x_assign rfl) ⟨Holds.rd H141_ 4 rfl, Holds.ro_at H141_ 1 rfl⟩ ?_
  refine A_done (by kernel_rfl) ?_
  refine (X_then (hK7_ _ _ ?_))
  clear hK7_
  refine C_seq (fun K144_ hK144_ => ?_)
  refine C_seq (fun K145_ hK145_ => ?_)
  refine C_reg ?_
  refine S_list (T_val (v := (Value.pointer (some ⟨b2_, 6, none⟩))) (by kernel_rfl) ?_)
  refine S_list (T_val (v := (Value.bool true)) (x_load1 rfl Try.underlying4 rfl ((Holds.rd H141_ 4 rfl) 6 (Value.bool true) rfl)) ?_)
  refine wpList_nil ?_
  refine (X_then (hK145_ _ _ ?_))
  clear hK145_
  refine C_condT rfl ?_
  refine C_seq (fun K146_ hK146_ => ?_)
  refine C_reg ?_
  refine S_list (T_val (v := (Value.pointer (some ⟨b139_, 0, none⟩))) (x_move rfl) ?_)
  refine S_list (T_val (v := (Value.pointer (some ⟨b139_, 0, none⟩))) (x_assign rfl) ?_)
  refine wpList_nil ?_
  refine (X_then (hK146_ _ _ ?_))
  clear hK146_
  refine C_ret (X_thenR ?_)
  refine R_any (v := (Value.pointer (some ⟨b139_, 0, none⟩))) (run_results1 rfl rfl) ?_
  have H147_ : Holds w140_ (ro R :: cl b139_ 106 [(Value.int .i32 r), (Value.int .i32 4), (Value.slice (some ⟨b109_, 0, none⟩) key.size cp110_), (Value.nilIface), (Value.slice a136_ en.size cp137_)] :: F) := (Holds.erase (Holds.erase (Holds.erase (Holds.bring (Holds.bring H141_ 0 rfl) 1 rfl) 2) 2) 2)
  exact ⟨_, [cl b139_ 106 [(Value.int .i32 r), (Value.int .i32 4), (Value.slice (some ⟨b109_, 0, none⟩) key.size cp110_), (Value.nilIface), (Value.slice a136_ en.size cp137_)]], rfl, ⟨b139_, (Value.slice (some ⟨b109_, 0, none⟩) key.size cp110_), (Value.slice a136_ en.size cp137_), rfl, rfl⟩, S143_, H147_⟩

set_option maxHeartbeats 400000 in
theorem cmpIn4f (R : HP) (r : Int) (key en : ByteArray) (n : Int) (val : ByteArray) (h0 : 0 ≤ r) (h1 : r ≤ 3) :
    Tri Try.prog 36 #[(Value.agg #[(Value.int .i64 4), (Value.int .i64 r), (Value.string key), (Value.string en), (Value.int .i64 n), (Value.string val), (Value.bool false)])] R [] (fun v post => ∃ c u K E, v = .pointer (some ⟨c, 0, none⟩) ∧ post = [cl c 106 [.int .i32 r, .int .i32 4, K, .iface 119 (.pointer (some ⟨u, 0, none⟩)), E], cl u 121 [.int .i64 n]]) := by
  refine Tri.into (n := 75) (al := [(Value.agg #[(Value.int .i64 4), (Value.int .i64 r), (Value.string key), (Value.string en), (Value.int .i64 n), (Value.string val), (Value.bool false)])]) Try.func36 rfl Try.ntmps36 rfl rfl fun w F H => ?_
  replace H : Holds w (ro R :: F) := H
  refine C_seq (fun K1_ hK1_ => ?_)
  refine C_reg ?_
  refine S_list (T_box (v := (Value.agg #[(Value.int .i64 4), (Value.int .i64 r), (Value.string key), (Value.string en), (Value.int .i64 n), (Value.string val), (Value.bool false)])) rfl H ?_)
  intro b2_ w3_ S5_ H4_
  replace H4_ : Holds w3_ (cl b2_ 31 [(Value.int .i64 4), (Value.int .i64 r), (Value.string key), (Value.string en), (Value.int .i64 n), (Value.string val), (Value.bool false)] :: ro R :: F) := H4_
  have S6_ := Same.trans (Same.refl w) S5_
  refine S_list (T_val (v := (Value.pointer none)) (x_assign rfl) ?_)
  refine wpList_nil ?_
  refine (X_then (hK1_ _ _ ?_))
  clear hK1_
  refine C_seq (fun K7_ hK7_ => ?_)
  refine A_start (S := fun w => Rd b2_ [(Value.int .i64 4), (Value.int .i64 r), (Value.string key), (Value.string en), (Value.int .i64 n), (Value.string val), (Value.bool false)] w ∧ Sub R (hp w)) (N := 15) foll rfl rfl ?_
  have H9_ : Holds w3_.drew (cl b2_ 31 [(Value.int .i64 4), (Value.int .i64 r), (Value.string key), (Value.string en), (Value.int .i64 n), (Value.string val), (Value.bool false)] :: ro R :: F) := H4_
  refine A_take 0 (ls' := #[true, false, false, false, false, false, false, false, false, false, false, false, false, false, false]) (v := (Value.pointer (some ⟨b2_, 1, none⟩))) rfl (by kernel_rfl) (by kernel_rfl) (by kernel_rfl) (by kernel_rfl) (fun _ _ _ h => h) (fun w hS => by kernel_rfl) ⟨Holds.rd H9_ 0 rfl, Holds.ro_at H9_ 1 rfl⟩ ?_
  refine A_take 1 (ls' := #[true, true, false, false, false, false, false, false, false, false, false, false, false, false, false]) (v := (Value.int .i64 r)) rfl (by kernel_rfl) (by kernel_rfl) (by kernel_rfl) (by kernel_rfl) (fun _ _ _ h => h) (fun w hS => x_load1 rfl Try.underlying3 rfl (hS.1 1 (Value.int .i64 r) rfl)) ⟨Holds.rd H9_ 0 rfl, Holds.ro_at H9_ 1 rfl⟩ ?_
  refine A_take 3 (ls' := #[true, true, false, true, false, false, false, false, false, false, false, false, false, false, false]) (v := (Value.pointer (some ⟨b2_, 0, none⟩))) rfl (by kernel_rfl) (by kernel_rfl) (by kernel_rfl) (by kernel_rfl) (fun _ _ _ h => h) (fun w hS => by kernel_rfl) ⟨Holds.rd H9_ 0 rfl, Holds.ro_at H9_ 1 rfl⟩ ?_
  refine A_take 4 (ls' := #[true, true, false, true, true, false, false, false, false, false, false, false, false, false, false]) (v := (Value.int .i64 4)) rfl (by kernel_rfl) (by kernel_rfl) (by kernel_rfl) (by kernel_rfl) (fun _ _ _ h => h) (fun w hS => x_load1 rfl Try.underlying3 rfl (hS.1 0 (Value.int .i64 4) rfl)) ⟨Holds.rd H9_ 0 rfl, Holds.ro_at H9_ 1 rfl⟩ ?_
  refine A_take 6 (ls' := #[true, true, false, true, true, false, true, false, false, false, false, false, false, false, false]) (v := (Value.pointer (some ⟨b2_, 2, none⟩))) rfl (by kernel_rfl) (by kernel_rfl) (by kernel_rfl) (by kernel_rfl) (fun _ _ _ h => h) (fun w hS => by kernel_rfl) ⟨Holds.rd H9_ 0 rfl, Holds.ro_at H9_ 1 rfl⟩ ?_
  refine A_take 7 (ls' := #[true, true, false, true, true, false, true, true, false, false, false, false, false, false, false]) (v := (Value.string key)) rfl (by kernel_rfl) (by kernel_rfl) (by kernel_rfl) (by kernel_rfl) (fun _ _ _ h => h) (fun w hS => x_load1 rfl Try.underlying9 rfl (hS.1 2 (Value.string key) rfl)) ⟨Holds.rd H9_ 0 rfl, Holds.ro_at H9_ 1 rfl⟩ ?_
  refine A_take 9 (ls' := #[true, true, false, true, true, false, true, true, false, true, false, false, false, false, false]) (v := (Value.pointer (some ⟨b2_, 3, none⟩))) rfl (by kernel_rfl) (by kernel_rfl) (by kernel_rfl) (by kernel_rfl) (fun _ _ _ h => h) (fun w hS => by kernel_rfl) ⟨Holds.rd H9_ 0 rfl, Holds.ro_at H9_ 1 rfl⟩ ?_
  refine A_take 10 (ls' := #[true, true, false, true, true, false, true, true, false, true, true, false, false, false, false]) (v := (Value.string en)) rfl (by kernel_rfl) (by kernel_rfl) (by kernel_rfl) (by kernel_rfl) (fun _ _ _ h => h) (fun w hS => x_load1 rfl Try.underlying9 rfl (hS.1 3 (Value.string en) rfl)) ⟨Holds.rd H9_ 0 rfl, Holds.ro_at H9_ 1 rfl⟩ ?_
  refine A_ready (i := 2) (rs := [8]) (by kernel_rfl) ?_
  refine AllR.cons ?_ ?_
  · skip
    have H10_ : Holds w3_.drew (ro R :: cl b2_ 31 [(Value.int .i64 4), (Value.int .i64 r), (Value.string key), (Value.string en), (Value.int .i64 n), (Value.string val), (Value.bool false)] :: F) := (Holds.bring H9_ 1 rfl)
    refine A_op (ls' := #[true, true, true, true, true, false, true, true, false, true, true, false, false, false, false]) rfl (by kernel_rfl) (T_call (al := [(Value.int .i64 r)]) (pre := []) (F := cl b2_ 31 [(Value.int .i64 4), (Value.int .i64 r), (Value.string key), (Value.string en), (Value.int .i64 n), (Value.string val), (Value.bool false)] :: F) rfl rfl cb61 (ordSmall R r (by omega) (by omega)) H10_ ?_)
    rintro v14_ p15_ w11_ ⟨rfl, rfl⟩ S13_ H12_
    replace H12_ : Holds w11_ (ro R :: cl b2_ 31 [(Value.int .i64 4), (Value.int .i64 r), (Value.string key), (Value.string en), (Value.int .i64 n), (Value.string val), (Value.bool false)] :: F) := H12_
    have S16_ := Same.trans (Same.trans S6_ (Same.drew _)) S13_
    refine ⟨⟨Holds.rd H12_ 1 rfl, Holds.ro_at H12_ 0 rfl⟩, ?_⟩
    refine A_ready (i := 5) (rs := [8]) (by kernel_rfl) ?_
    refine AllR.cons ?_ ?_
    · skip
      refine A_op (ls' := #[true, true, true, true, true, true, true, true, false, true, true, false, false, false, false]) rfl (by kernel_rfl) (T_call (al := [(Value.int .i64 4)]) (pre := []) (F := cl b2_ 31 [(Value.int .i64 4), (Value.int .i64 r), (Value.string key), (Value.string en), (Value.int .i64 n), (Value.string val), (Value.bool false)] :: F) rfl rfl cb61 (ordSmall R 4 (by omega) (by omega)) H12_ ?_)
      rintro v20_ p21_ w17_ ⟨rfl, rfl⟩ S19_ H18_
      replace H18_ : Holds w17_ (ro R :: cl b2_ 31 [(Value.int .i64 4), (Value.int .i64 r), (Value.string key), (Value.string en), (Value.int .i64 n), (Value.string val), (Value.bool false)] :: F) := H18_
      have S22_ := Same.trans S16_ S19_
      refine ⟨⟨Holds.rd H18_ 1 rfl, Holds.ro_at H18_ 0 rfl⟩, ?_⟩
      refine A_ready (i := 8) (rs := [11]) (by kernel_rfl) ?_
      refine AllR.cons ?_ ?_
      · skip
        refine A_op (ls' := #[true, true, true, true, true, true, true, true, true, true, true, false, false, false, false]) rfl (by kernel_rfl) (T_s2b rfl Try.underlying9 Try.underlying25 Try.underlying5 H18_ ?_)
        intro b23_ cp24_ w25_ S27_ hc28_ H26_
        have S29_ := Same.trans S22_ S27_
        have H30_ : Holds w25_ (sl 5 1 (Value.slice (some ⟨b23_, 0, none⟩) key.size cp24_) key.size (bytesV (ints key)) :: ro R :: cl b2_ 31 [(Value.int .i64 4), (Value.int .i64 r), (Value.string key), (Value.string en), (Value.int .i64 n), (Value.string val), (Value.bool false)] :: F) := cast2 (P := fun (c__ : List Value) (k__ : Nat) => Holds w25_ (sl 5 1 (Value.slice (some ⟨b23_, 0, none⟩) key.size cp24_) k__ c__ :: ro R :: cl b2_ 31 [(Value.int .i64 4), (Value.int .i64 r), (Value.string key), (Value.string en), (Value.int .i64 n), (Value.string val), (Value.bool false)] :: F)) (byteCells_bytesV _ : byteCells key = bytesV (ints key)) (rfl : key.size = key.size) H26_
        refine ⟨⟨Holds.rd H30_ 2 rfl, Holds.ro_at H30_ 1 rfl⟩, ?_⟩
        refine A_ready (i := 11) (rs := []) (by kernel_rfl) ?_
        refine AllR.cons ?_ AllR.nil
        have H31_ : Holds w25_ (ro R :: sl 5 1 (Value.slice (some ⟨b23_, 0, none⟩) key.size cp24_) key.size (bytesV (ints key)) :: cl b2_ 31 [(Value.int .i64 4), (Value.int .i64 r), (Value.string key), (Value.string en), (Value.int .i64 n), (Value.string val), (Value.bool false)] :: F) := (Holds.bring H30_ 1 rfl)
        refine A_op (ls' := #[true, true, true, true, true, true, true, true, true, true, true, true, false, false, false]) rfl (by kernel_rfl) (T_call (al := [(Value.string en)]) (pre := []) (F := sl 5 1 (Value.slice (some ⟨b23_, 0, none⟩) key.size cp24_) key.size (bytesV (ints key)) :: cl b2_ 31 [(Value.int .i64 4), (Value.int .i64 r), (Value.string key), (Value.string en), (Value.int .i64 n), (Value.string val), (Value.bool false)] :: F) rfl rfl cb62 (bytesOfC R en) H31_ ?_)
        rintro v35_ p36_ w32_ rfl S34_ H33_
        replace H33_ : Holds w32_ (ro R :: sl 5 1 v35_ en.size (bytesV (ints en)) :: sl 5 1 (Value.slice (some ⟨b23_, 0, none⟩) key.size cp24_) key.size (bytesV (ints key)) :: cl b2_ 31 [(Value.int .i64 4), (Value.int .i64 r), (Value.string key), (Value.string en), (Value.int .i64 n), (Value.string val), (Value.bool false)] :: F) := H33_
        have S37_ := Same.trans S29_ S34_
        obtain ⟨-, a38_, cp39_, rfl, hle40_⟩ := Holds.sl_len H33_ 1 rfl
        refine ⟨⟨Holds.rd H33_ 3 rfl, Holds.ro_at H33_ 0 rfl⟩, ?_⟩
        refine A_take 12 (ls' := #[true, true, true, true, true, true, true, true, true, true, true, true, true, false, false]) (v := (Value.agg #[(Value.int .i32 r), (Value.int .i32 4), (Value.slice (some ⟨b23_, 0, none⟩) key.size cp24_), (Value.nilIface), (Value.slice a38_ en.size cp39_)])) rfl (by kernel_rfl) (by kernel_rfl) (by kernel_rfl) (by kernel_rfl) (fun _ _ _ h => h) (fun w hS => by kernel_rfl) ⟨Holds.rd H33_ 3 rfl, Holds.ro_at H33_ 0 rfl⟩ ?_
        refine A_ready (i := 13) (rs := []) (by kernel_rfl) ?_
        refine AllR.cons ?_ AllR.nil
        refine A_op (ls' := #[true, true, true, true, true, true, true, true, true, true, true, true, true, true, false]) rfl (by kernel_rfl) (T_box (v := (Value.agg #[(Value.int .i32 r), (Value.int .i32 4), (Value.slice (some ⟨b23_, 0, none⟩) key.size cp24_), (Value.nilIface), (Value.slice a38_ en.size cp39_)])) rfl H33_ ?_)
        intro b41_ w42_ S44_ H43_
        replace H43_ : Holds w42_ (cl b41_ 106 [(Value.int .i32 r), (Value.int .i32 4), (Value.slice (some ⟨b23_, 0, none⟩) key.size cp24_), (Value.nilIface), (Value.slice a38_ en.size cp39_)] :: ro R :: sl 5 1 (Value.slice a38_ en.size cp39_) en.size (bytesV (ints en)) :: sl 5 1 (Value.slice (some ⟨b23_, 0, none⟩) key.size cp24_) key.size (bytesV (ints key)) :: cl b2_ 31 [(Value.int .i64 4), (Value.int .i64 r), (Value.string key), (Value.string en), (Value.int .i64 n), (Value.string val), (Value.bool false)] :: F) := H43_
        have S45_ := Same.trans S37_ S44_
        refine ⟨⟨Holds.rd H43_ 4 rfl, Holds.ro_at H43_ 1 rfl⟩, ?_⟩
        refine A_take 14 (ls' := #[true, true, true, true, true, true, true, true, true, true, true, true, true, true, true]) (v := (Value.pointer (some ⟨b41_, 0, none⟩))) rfl (by kernel_rfl) (by kernel_rfl) (by kernel_rfl) (by kernel_rfl) (fun _ _ _ h => h) (fun w hS => x_assign rfl) ⟨Holds.rd H43_ 4 rfl, Holds.ro_at H43_ 1 rfl⟩ ?_
        refine A_done (by kernel_rfl) ?_
        refine (X_then (hK7_ _ _ ?_))
        clear hK7_
        refine C_seq (fun K46_ hK46_ => ?_)
        refine C_seq (fun K47_ hK47_ => ?_)
        refine C_reg ?_
        refine S_list (T_val (v := (Value.pointer (some ⟨b2_, 6, none⟩))) (by kernel_rfl) ?_)
        refine S_list (T_val (v := (Value.bool false)) (x_load1 rfl Try.underlying4 rfl ((Holds.rd H43_ 4 rfl) 6 (Value.bool false) rfl)) ?_)
        refine wpList_nil ?_
        refine (X_then (hK47_ _ _ ?_))
        clear hK47_
        refine C_condF rfl ?_
        refine C_skip (X_then (hK46_ _ _ ?_))
        clear hK46_
        refine C_seq (fun K48_ hK48_ => ?_)
        refine C_seq (fun K49_ hK49_ => ?_)
        refine C_reg ?_
        refine S_list (T_val (v := (Value.pointer (some ⟨b2_, 0, none⟩))) (by kernel_rfl) ?_)
        refine S_list (T_val (v := (Value.int .i64 4)) (x_load1 rfl Try.underlying3 rfl ((Holds.rd H43_ 4 rfl) 0 (Value.int .i64 4) rfl)) ?_)
        refine wpList_nil ?_
        refine (X_then (hK49_ _ _ ?_))
        clear hK49_
        refine C_block ?_
        refine C_seq (fun K50_ hK50_ => ?_)
        refine C_reg ?_
        refine S_list (T_val (v := (Value.bool false)) (x_bin rfl rfl rfl) ?_)
        refine S_list (T_val (v := (Value.bool false)) (x_assign rfl) ?_)
        refine wpList_nil ?_
        refine (X_then (hK50_ _ _ ?_))
        clear hK50_
        refine C_condF rfl ?_
        refine C_seq (fun K51_ hK51_ => ?_)
        refine C_reg ?_
        refine S_list (T_val (v := (Value.bool false)) (x_bin rfl rfl rfl) ?_)
        refine S_list (T_val (v := (Value.bool false)) (x_assign rfl) ?_)
        refine wpList_nil ?_
        refine (X_then (hK51_ _ _ ?_))
        clear hK51_
        refine C_condF rfl ?_
        refine C_seq (fun K52_ hK52_ => ?_)
        refine C_reg ?_
        refine S_list (T_val (v := (Value.bool false)) (x_bin rfl rfl rfl) ?_)
        refine S_list (T_val (v := (Value.bool false)) (x_assign rfl) ?_)
        refine wpList_nil ?_
        refine (X_then (hK52_ _ _ ?_))
        clear hK52_
        refine C_condF rfl ?_
        refine C_seq (fun K53_ hK53_ => ?_)
        refine C_reg ?_
        refine S_list (T_val (v := (Value.bool false)) (x_bin rfl rfl rfl) ?_)
        refine S_list (T_val (v := (Value.bool false)) (x_assign rfl) ?_)
        refine wpList_nil ?_
        refine (X_then (hK53_ _ _ ?_))
        clear hK53_
        refine C_condF rfl ?_
        refine C_seq (fun K54_ hK54_ => ?_)
        refine C_reg ?_
        refine S_list (T_val (v := (Value.bool true)) (x_bin rfl rfl rfl) ?_)
        refine S_list (T_val (v := (Value.bool true)) (x_assign rfl) ?_)
        refine wpList_nil ?_
        refine (X_then (hK54_ _ _ ?_))
        clear hK54_
        refine C_condT rfl ?_
        refine C_reg ?_
        refine S_list (T_val (v := (Value.pointer (some ⟨b41_, 0, none⟩))) (x_move rfl) ?_)
        refine S_list (T_val (v := (Value.pointer (some ⟨b2_, 4, none⟩))) (by kernel_rfl) ?_)
        refine S_list (T_val (v := (Value.int .i64 n)) (x_load1 rfl Try.underlying2 rfl ((Holds.rd H43_ 4 rfl) 4 (Value.int .i64 n) rfl)) ?_)
        refine S_list (T_val (v := (Value.agg #[(Value.int .i64 n)])) (by kernel_rfl) ?_)
        refine S_list (T_box (v := (Value.agg #[(Value.int .i64 n)])) rfl H43_ ?_)
        intro b55_ w56_ S58_ H57_
        replace H57_ : Holds w56_ (cl b55_ 121 [(Value.int .i64 n)] :: cl b41_ 106 [(Value.int .i32 r), (Value.int .i32 4), (Value.slice (some ⟨b23_, 0, none⟩) key.size cp24_), (Value.nilIface), (Value.slice a38_ en.size cp39_)] :: ro R :: sl 5 1 (Value.slice a38_ en.size cp39_) en.size (bytesV (ints en)) :: sl 5 1 (Value.slice (some ⟨b23_, 0, none⟩) key.size cp24_) key.size (bytesV (ints key)) :: cl b2_ 31 [(Value.int .i64 4), (Value.int .i64 r), (Value.string key), (Value.string en), (Value.int .i64 n), (Value.string val), (Value.bool false)] :: F) := H57_
        have S59_ := Same.trans S45_ S58_
        refine S_list (T_val (v := (Value.iface 119 (Value.pointer (some ⟨b55_, 0, none⟩)))) (by kernel_rfl) ?_)
        refine S_list (T_val (v := (Value.pointer (some ⟨b41_, 0, none⟩))) (by kernel_rfl) ?_)
        refine S_list (T_val (v := (Value.pointer (some ⟨b41_, 3, none⟩))) (by kernel_rfl) ?_)
        refine S_list0 (T_store1 (v := (Value.iface 119 (Value.pointer (some ⟨b55_, 0, none⟩)))) rfl rfl z20 rfl H57_ 1 rfl (Nat.le_of_ble_eq_true (by rfl)) ?_)
        intro w60_ S62_ H61_
        replace H61_ : Holds w60_ (cl b55_ 121 [(Value.int .i64 n)] :: cl b41_ 106 [(Value.int .i32 r), (Value.int .i32 4), (Value.slice (some ⟨b23_, 0, none⟩) key.size cp24_), (Value.iface 119 (Value.pointer (some ⟨b55_, 0, none⟩))), (Value.slice a38_ en.size cp39_)] :: ro R :: sl 5 1 (Value.slice a38_ en.size cp39_) en.size (bytesV (ints en)) :: sl 5 1 (Value.slice (some ⟨b23_, 0, none⟩) key.size cp24_) key.size (bytesV (ints key)) :: cl b2_ 31 [(Value.int .i64 4), (Value.int .i64 r), (Value.string key), (Value.string en), (Value.int .i64 n), (Value.string val), (Value.bool false)] :: F) := H61_
        have S63_ := Same.trans S59_ S62_
        refine wpList_nil ?_
        refine (X_blkN (X_then (hK48_ _ _ ?_)))
        clear hK48_
        refine C_seq (fun K64_ hK64_ => ?_)
        refine C_reg ?_
        refine S_list (T_val (v := (Value.pointer (some ⟨b41_, 0, none⟩))) (x_move rfl) ?_)
        refine S_list (T_val (v := (Value.pointer (some ⟨b41_, 0, none⟩))) (x_assign rfl) ?_)
        refine wpList_nil ?_
        refine (X_then (hK64_ _ _ ?_))
        clear hK64_
        refine C_ret ?_
        refine R_any (v := (Value.pointer (some ⟨b41_, 0, none⟩))) (run_results1 rfl rfl) ?_
        have H65_ : Holds w60_ (ro R :: cl b41_ 106 [(Value.int .i32 r), (Value.int .i32 4), (Value.slice (some ⟨b23_, 0, none⟩) key.size cp24_), (Value.iface 119 (Value.pointer (some ⟨b55_, 0, none⟩))), (Value.slice a38_ en.size cp39_)] :: cl b55_ 121 [(Value.int .i64 n)] :: F) := (Holds.erase (Holds.erase (Holds.erase (Holds.bring (Holds.bring (Holds.bring H61_ 0 rfl) 1 rfl) 2 rfl) 3) 3) 3)
        exact ⟨_, [cl b41_ 106 [(Value.int .i32 r), (Value.int .i32 4), (Value.slice (some ⟨b23_, 0, none⟩) key.size cp24_), (Value.iface 119 (Value.pointer (some ⟨b55_, 0, none⟩))), (Value.slice a38_ en.size cp39_)], cl b55_ 121 [(Value.int .i64 n)]], rfl, ⟨b41_, b55_, (Value.slice (some ⟨b23_, 0, none⟩) key.size cp24_), (Value.slice a38_ en.size cp39_), rfl, rfl⟩, S63_, H65_⟩
      refine AllR.cons ?_ AllR.nil
      refine A_op (ls' := #[true, true, true, true, true, true, true, true, false, true, true, true, false, false, false]) rfl (by kernel_rfl) (T_call (al := [(Value.string en)]) (pre := []) (F := cl b2_ 31 [(Value.int .i64 4), (Value.int .i64 r), (Value.string key), (Value.string en), (Value.int .i64 n), (Value.string val), (Value.bool false)] :: F) rfl rfl cb62 (bytesOfC R en) H18_ ?_)
      rintro v69_ p70_ w66_ rfl S68_ H67_
      replace H67_ : Holds w66_ (ro R :: sl 5 1 v69_ en.size (bytesV (ints en)) :: cl b2_ 31 [(Value.int .i64 4), (Value.int .i64 r), (Value.string key), (Value.string en), (Value.int .i64 n), (Value.string val), (Value.bool false)] :: F) := H67_
      have S71_ := Same.trans S22_ S68_
      obtain ⟨-, a72_, cp73_, rfl, hle74_⟩ := Holds.sl_len H67_ 1 rfl
      refine ⟨⟨Holds.rd H67_ 2 rfl, Holds.ro_at H67_ 0 rfl⟩, ?_⟩
      refine A_ready (i := 8) (rs := []) (by kernel_rfl) ?_
      refine AllR.cons ?_ AllR.nil
      refine A_op (ls' := #[true, true, true, true, true, true, true, true, true, true, true, true, false, false, false]) rfl (by kernel_rfl) (T_s2b rfl Try.underlying9 Try.underlying25 Try.underlying5 H67_ ?_)
      intro b75_ cp76_ w77_ S79_ hc80_ H78_
      have S81_ := Same.trans S71_ S79_
      have H82_ : Holds w77_ (sl 5 1 (Value.slice (some ⟨b75_, 0, none⟩) key.size cp76_) key.size (bytesV (ints key)) :: ro R :: sl 5 1 (Value.slice a72_ en.size cp73_) en.size (bytesV (ints en)) :: cl b2_ 31 [(Value.int .i64 4), (Value.int .i64 r), (Value.string key), (Value.string en), (Value.int .i64 n), (Value.string val), (Value.bool false)] :: F) := cast2 (P := fun (c__ : List Value) (k__ : Nat) => Holds w77_ (sl 5 1 (Value.slice (some ⟨b75_, 0, none⟩) key.size cp76_) k__ c__ :: ro R :: sl 5 1 (Value.slice a72_ en.size cp73_) en.size (bytesV (ints en)) :: cl b2_ 31 [(Value.int .i64 4), (Value.int .i64 r), (Value.string key), (Value.string en), (Value.int .i64 n), (Value.string val), (Value.bool false)] :: F)) (byteCells_bytesV _ : byteCells key = bytesV (ints key)) (rfl : key.size = key.size) H78_
      refine ⟨⟨Holds.rd H82_ 3 rfl, Holds.ro_at H82_ 1 rfl⟩, ?_⟩
      refine A_take 12 (ls' := #[true, true, true, true, true, true, true, true, true, true, true, true, true, false, false]) (v := (Value.agg #[(Value.int .i32 r), (Value.int .i32 4), (Value.slice (some ⟨b75_, 0, none⟩) key.size cp76_), (Value.nilIface), (Value.slice a72_ en.size cp73_)])) rfl (by kernel_rfl) (by kernel_rfl) (by kernel_rfl) (by kernel_rfl) (fun _ _ _ h => h) (fun w hS => by kernel_rfl) ⟨Holds.rd H82_ 3 rfl, Holds.ro_at H82_ 1 rfl⟩ ?_
      refine A_ready (i := 13) (rs := []) (by kernel_rfl) ?_
      refine AllR.cons ?_ AllR.nil
      refine A_op (ls' := #[true, true, true, true, true, true, true, true, true, true, true, true, true, true, false]) rfl (by kernel_rfl) (T_box (v := (Value.agg #[(Value.int .i32 r), (Value.int .i32 4), (Value.slice (some ⟨b75_, 0, none⟩) key.size cp76_), (Value.nilIface), (Value.slice a72_ en.size cp73_)])) rfl H82_ ?_)
      intro b83_ w84_ S86_ H85_
      replace H85_ : Holds w84_ (cl b83_ 106 [(Value.int .i32 r), (Value.int .i32 4), (Value.slice (some ⟨b75_, 0, none⟩) key.size cp76_), (Value.nilIface), (Value.slice a72_ en.size cp73_)] :: sl 5 1 (Value.slice (some ⟨b75_, 0, none⟩) key.size cp76_) key.size (bytesV (ints key)) :: ro R :: sl 5 1 (Value.slice a72_ en.size cp73_) en.size (bytesV (ints en)) :: cl b2_ 31 [(Value.int .i64 4), (Value.int .i64 r), (Value.string key), (Value.string en), (Value.int .i64 n), (Value.string val), (Value.bool false)] :: F) := H85_
      have S87_ := Same.trans S81_ S86_
      refine ⟨⟨Holds.rd H85_ 4 rfl, Holds.ro_at H85_ 2 rfl⟩, ?_⟩
      refine A_take 14 (ls' := #[true, true, true, true, true, true, true, true, true, true, true, true, true, true, true]) (v := (Value.pointer (some ⟨b83_, 0, none⟩))) rfl (by kernel_rfl) (by kernel_rfl) (by kernel_rfl) (by kernel_rfl) (fun _ _ _ h => h) (fun w hS => x_assign rfl) ⟨Holds.rd H85_ 4 rfl, Holds.ro_at H85_ 2 rfl⟩ ?_
      refine A_done (by kernel_rfl) ?_
      refine (X_then (hK7_ _ _ ?_))
      clear hK7_
      refine C_seq (fun K88_ hK88_ => ?_)
      refine C_seq (fun K89_ hK89_ => ?_)
      refine C_reg ?_
      refine S_list (T_val (v := (Value.pointer (some ⟨b2_, 6, none⟩))) (by kernel_rfl) ?_)
      refine S_list (T_val (v := (Value.bool false)) (x_load1 rfl Try.underlying4 rfl ((Holds.rd H85_ 4 rfl) 6 (Value.bool false) rfl)) ?_)
      refine wpList_nil ?_
      refine (X_then (hK89_ _ _ ?_))
      clear hK89_
      refine C_condF rfl ?_
      refine C_skip (X_then (hK88_ _ _ ?_))
      clear hK88_
      refine C_seq (fun K90_ hK90_ => ?_)
      refine C_seq (fun K91_ hK91_ => ?_)
      refine C_reg ?_
      refine S_list (T_val (v := (Value.pointer (some ⟨b2_, 0, none⟩))) (by kernel_rfl) ?_)
      refine S_list (T_val (v := (Value.int .i64 4)) (x_load1 rfl Try.underlying3 rfl ((Holds.rd H85_ 4 rfl) 0 (Value.int .i64 4) rfl)) ?_)
      refine wpList_nil ?_
      refine (X_then (hK91_ _ _ ?_))
      clear hK91_
      refine C_block ?_
      refine C_seq (fun K92_ hK92_ => ?_)
      refine C_reg ?_
      refine S_list (T_val (v := (Value.bool false)) (x_bin rfl rfl rfl) ?_)
      refine S_list (T_val (v := (Value.bool false)) (x_assign rfl) ?_)
      refine wpList_nil ?_
      refine (X_then (hK92_ _ _ ?_))
      clear hK92_
      refine C_condF rfl ?_
      refine C_seq (fun K93_ hK93_ => ?_)
      refine C_reg ?_
      refine S_list (T_val (v := (Value.bool false)) (x_bin rfl rfl rfl) ?_)
      refine S_list (T_val (v := (Value.bool false)) (x_assign rfl) ?_)
      refine wpList_nil ?_
      refine (X_then (hK93_ _ _ ?_))
      clear hK93_
      refine C_condF rfl ?_
      refine C_seq (fun K94_ hK94_ => ?_)
      refine C_reg ?_
      refine S_list (T_val (v := (Value.bool false)) (x_bin rfl rfl rfl) ?_)
      refine S_list (T_val (v := (Value.bool false)) (x_assign rfl) ?_)
      refine wpList_nil ?_
      refine (X_then (hK94_ _ _ ?_))
      clear hK94_
      refine C_condF rfl ?_
      refine C_seq (fun K95_ hK95_ => ?_)
      refine C_reg ?_
      refine S_list (T_val (v := (Value.bool false)) (x_bin rfl rfl rfl) ?_)
      refine S_list (T_val (v := (Value.bool false)) (x_assign rfl) ?_)
      refine wpList_nil ?_
      refine (X_then (hK95_ _ _ ?_))
      clear hK95_
      refine C_condF rfl ?_
      refine C_seq (fun K96_ hK96_ => ?_)
      refine C_reg ?_
      refine S_list (T_val (v := (Value.bool true)) (x_bin rfl rfl rfl) ?_)
      refine S_list (T_val (v := (Value.bool true)) (x_assign rfl) ?_)
      refine wpList_nil ?_
      refine (X_then (hK96_ _ _ ?_))
      clear hK96_
      refine C_condT rfl ?_
      refine C_reg ?_
      refine S_list (T_val (v := (Value.pointer (some ⟨b83_, 0, none⟩))) (x_move rfl) ?_)
      refine S_list (T_val (v := (Value.pointer (some ⟨b2_, 4, none⟩))) (by kernel_rfl) ?_)
      refine S_list (T_val (v := (Value.int .i64 n)) (x_load1 rfl Try.underlying2 rfl ((Holds.rd H85_ 4 rfl) 4 (Value.int .i64 n) rfl)) ?_)
      refine S_list (T_val (v := (Value.agg #[(Value.int .i64 n)])) (by kernel_rfl) ?_)
      refine S_list (T_box (v := (Value.agg #[(Value.int .i64 n)])) rfl H85_ ?_)
      intro b97_ w98_ S100_ H99_
      replace H99_ : Holds w98_ (cl b97_ 121 [(Value.int .i64 n)] :: cl b83_ 106 [(Value.int .i32 r), (Value.int .i32 4), (Value.slice (some ⟨b75_, 0, none⟩) key.size cp76_), (Value.nilIface), (Value.slice a72_ en.size cp73_)] :: sl 5 1 (Value.slice (some ⟨b75_, 0, none⟩) key.size cp76_) key.size (bytesV (ints key)) :: ro R :: sl 5 1 (Value.slice a72_ en.size cp73_) en.size (bytesV (ints en)) :: cl b2_ 31 [(Value.int .i64 4), (Value.int .i64 r), (Value.string key), (Value.string en), (Value.int .i64 n), (Value.string val), (Value.bool false)] :: F) := H99_
      have S101_ := Same.trans S87_ S100_
      refine S_list (T_val (v := (Value.iface 119 (Value.pointer (some ⟨b97_, 0, none⟩)))) (by kernel_rfl) ?_)
      refine S_list (T_val (v := (Value.pointer (some ⟨b83_, 0, none⟩))) (by kernel_rfl) ?_)
      refine S_list (T_val (v := (Value.pointer (some ⟨b83_, 3, none⟩))) (by kernel_rfl) ?_)
      refine S_list0 (T_store1 (v := (Value.iface 119 (Value.pointer (some ⟨b97_, 0, none⟩)))) rfl rfl z20 rfl H99_ 1 rfl (Nat.le_of_ble_eq_true (by rfl)) ?_)
      intro w102_ S104_ H103_
      replace H103_ : Holds w102_ (cl b97_ 121 [(Value.int .i64 n)] :: cl b83_ 106 [(Value.int .i32 r), (Value.int .i32 4), (Value.slice (some ⟨b75_, 0, none⟩) key.size cp76_), (Value.iface 119 (Value.pointer (some ⟨b97_, 0, none⟩))), (Value.slice a72_ en.size cp73_)] :: sl 5 1 (Value.slice (some ⟨b75_, 0, none⟩) key.size cp76_) key.size (bytesV (ints key)) :: ro R :: sl 5 1 (Value.slice a72_ en.size cp73_) en.size (bytesV (ints en)) :: cl b2_ 31 [(Value.int .i64 4), (Value.int .i64 r), (Value.string key), (Value.string en), (Value.int .i64 n), (Value.string val), (Value.bool false)] :: F) := H103_
      have S105_ := Same.trans S101_ S104_
      refine wpList_nil ?_
      refine (X_blkN (X_then (hK90_ _ _ ?_)))
      clear hK90_
      refine C_seq (fun K106_ hK106_ => ?_)
      refine C_reg ?_
      refine S_list (T_val (v := (Value.pointer (some ⟨b83_, 0, none⟩))) (x_move rfl) ?_)
      refine S_list (T_val (v := (Value.pointer (some ⟨b83_, 0, none⟩))) (x_assign rfl) ?_)
      refine wpList_nil ?_
      refine (X_then (hK106_ _ _ ?_))
      clear hK106_
      refine C_ret ?_
      refine R_any (v := (Value.pointer (some ⟨b83_, 0, none⟩))) (run_results1 rfl rfl) ?_
      have H107_ : Holds w102_ (ro R :: cl b83_ 106 [(Value.int .i32 r), (Value.int .i32 4), (Value.slice (some ⟨b75_, 0, none⟩) key.size cp76_), (Value.iface 119 (Value.pointer (some ⟨b97_, 0, none⟩))), (Value.slice a72_ en.size cp73_)] :: cl b97_ 121 [(Value.int .i64 n)] :: F) := (Holds.erase (Holds.erase (Holds.erase (Holds.bring (Holds.bring (Holds.bring H103_ 0 rfl) 1 rfl) 3 rfl) 3) 3) 3)
      exact ⟨_, [cl b83_ 106 [(Value.int .i32 r), (Value.int .i32 4), (Value.slice (some ⟨b75_, 0, none⟩) key.size cp76_), (Value.iface 119 (Value.pointer (some ⟨b97_, 0, none⟩))), (Value.slice a72_ en.size cp73_)], cl b97_ 121 [(Value.int .i64 n)]], rfl, ⟨b83_, b97_, (Value.slice (some ⟨b75_, 0, none⟩) key.size cp76_), (Value.slice a72_ en.size cp73_), rfl, rfl⟩, S105_, H107_⟩
    refine AllR.cons ?_ AllR.nil
    refine A_op (ls' := #[true, true, true, true, true, false, true, true, true, true, true, false, false, false, false]) rfl (by kernel_rfl) (T_s2b rfl Try.underlying9 Try.underlying25 Try.underlying5 H12_ ?_)
    intro b108_ cp109_ w110_ S112_ hc113_ H111_
    have S114_ := Same.trans S16_ S112_
    have H115_ : Holds w110_ (sl 5 1 (Value.slice (some ⟨b108_, 0, none⟩) key.size cp109_) key.size (bytesV (ints key)) :: ro R :: cl b2_ 31 [(Value.int .i64 4), (Value.int .i64 r), (Value.string key), (Value.string en), (Value.int .i64 n), (Value.string val), (Value.bool false)] :: F) := cast2 (P := fun (c__ : List Value) (k__ : Nat) => Holds w110_ (sl 5 1 (Value.slice (some ⟨b108_, 0, none⟩) key.size cp109_) k__ c__ :: ro R :: cl b2_ 31 [(Value.int .i64 4), (Value.int .i64 r), (Value.string key), (Value.string en), (Value.int .i64 n), (Value.string val), (Value.bool false)] :: F)) (byteCells_bytesV _ : byteCells key = bytesV (ints key)) (rfl : key.size = key.size) H111_
    refine ⟨⟨Holds.rd H115_ 2 rfl, Holds.ro_at H115_ 1 rfl⟩, ?_⟩
    refine A_ready (i := 5) (rs := []) (by kernel_rfl) ?_
    refine AllR.cons ?_ AllR.nil
    have H116_ : Holds w110_ (ro R :: sl 5 1 (Value.slice (some ⟨b108_, 0, none⟩) key.size cp109_) key.size (bytesV (ints key)) :: cl b2_ 31 [(Value.int .i64 4), (Value.int .i64 r), (Value.string key), (Value.string en), (Value.int .i64 n), (Value.string val), (Value.bool false)] :: F) := (Holds.bring H115_ 1 rfl)
    refine A_op (ls' := #[true, true, true, true, true, true, true, true, true, true, true, false, false, false, false]) rfl (by kernel_rfl) (T_call (al := [(Value.int .i64 4)]) (pre := []) (F := sl 5 1 (Value.slice (some ⟨b108_, 0, none⟩) key.size cp109_) key.size (bytesV (ints key)) :: cl b2_ 31 [(Value.int .i64 4), (Value.int .i64 r), (Value.string key), (Value.string en), (Value.int .i64 n), (Value.string val), (Value.bool false)] :: F) rfl rfl cb61 (ordSmall R 4 (by omega) (by omega)) H116_ ?_)
    rintro v120_ p121_ w117_ ⟨rfl, rfl⟩ S119_ H118_
    replace H118_ : Holds w117_ (ro R :: sl 5 1 (Value.slice (some ⟨b108_, 0, none⟩) key.size cp109_) key.size (bytesV (ints key)) :: cl b2_ 31 [(Value.int .i64 4), (Value.int .i64 r), (Value.string key), (Value.string en), (Value.int .i64 n), (Value.string val), (Value.bool false)] :: F) := H118_
    have S122_ := Same.trans S114_ S119_
    refine ⟨⟨Holds.rd H118_ 2 rfl, Holds.ro_at H118_ 0 rfl⟩, ?_⟩
    refine A_ready (i := 11) (rs := []) (by kernel_rfl) ?_
    refine AllR.cons ?_ AllR.nil
    refine A_op (ls' := #[true, true, true, true, true, true, true, true, true, true, true, true, false, false, false]) rfl (by kernel_rfl) (T_call (al := [(Value.string en)]) (pre := []) (F := sl 5 1 (Value.slice (some ⟨b108_, 0, none⟩) key.size cp109_) key.size (bytesV (ints key)) :: cl b2_ 31 [(Value.int .i64 4), (Value.int .i64 r), (Value.string key), (Value.string en), (Value.int .i64 n), (Value.string val), (Value.bool false)] :: F) rfl rfl cb62 (bytesOfC R en) H118_ ?_)
    rintro v126_ p127_ w123_ rfl S125_ H124_
    replace H124_ : Holds w123_ (ro R :: sl 5 1 v126_ en.size (bytesV (ints en)) :: sl 5 1 (Value.slice (some ⟨b108_, 0, none⟩) key.size cp109_) key.size (bytesV (ints key)) :: cl b2_ 31 [(Value.int .i64 4), (Value.int .i64 r), (Value.string key), (Value.string en), (Value.int .i64 n), (Value.string val), (Value.bool false)] :: F) := H124_
    have S128_ := Same.trans S122_ S125_
    obtain ⟨-, a129_, cp130_, rfl, hle131_⟩ := Holds.sl_len H124_ 1 rfl
    refine ⟨⟨Holds.rd H124_ 3 rfl, Holds.ro_at H124_ 0 rfl⟩, ?_⟩
    refine A_take 12 (ls' := #[true, true, true, true, true, true, true, true, true, true, true, true, true, false, false]) (v := (Value.agg #[(Value.int .i32 r), (Value.int .i32 4), (Value.slice (some ⟨b108_, 0, none⟩) key.size cp109_), (Value.nilIface), (Value.slice a129_ en.size cp130_)])) rfl (by kernel_rfl) (by kernel_rfl) (by kernel_rfl) (by kernel_rfl) (fun _ _ _ h => h) (fun w hS => by kernel_rfl) ⟨Holds.rd H124_ 3 rfl, Holds.ro_at H124_ 0 rfl⟩ ?_
    refine A_ready (i := 13) (rs := []) (by kernel_rfl) ?_
    refine AllR.cons ?_ AllR.nil
    refine A_op (ls' := #[true, true, true, true, true, true, true, true, true, true, true, true, true, true, false]) rfl (by kernel_rfl) (T_box (v := (Value.agg #[(Value.int .i32 r), (Value.int .i32 4), (Value.slice (some ⟨b108_, 0, none⟩) key.size cp109_), (Value.nilIface), (Value.slice a129_ en.size cp130_)])) rfl H124_ ?_)
    intro b132_ w133_ S135_ H134_
    replace H134_ : Holds w133_ (cl b132_ 106 [(Value.int .i32 r), (Value.int .i32 4), (Value.slice (some ⟨b108_, 0, none⟩) key.size cp109_), (Value.nilIface), (Value.slice a129_ en.size cp130_)] :: ro R :: sl 5 1 (Value.slice a129_ en.size cp130_) en.size (bytesV (ints en)) :: sl 5 1 (Value.slice (some ⟨b108_, 0, none⟩) key.size cp109_) key.size (bytesV (ints key)) :: cl b2_ 31 [(Value.int .i64 4), (Value.int .i64 r), (Value.string key), (Value.string en), (Value.int .i64 n), (Value.string val), (Value.bool false)] :: F) := H134_
    have S136_ := Same.trans S128_ S135_
    refine ⟨⟨Holds.rd H134_ 4 rfl, Holds.ro_at H134_ 1 rfl⟩, ?_⟩
    refine A_take 14 (ls' := #[true, true, true, true, true, true, true, true, true, true, true, true, true, true, true]) (v := (Value.pointer (some ⟨b132_, 0, none⟩))) rfl (by kernel_rfl) (by kernel_rfl) (by kernel_rfl) (by kernel_rfl) (fun _ _ _ h => h) (fun w hS => x_assign rfl) ⟨Holds.rd H134_ 4 rfl, Holds.ro_at H134_ 1 rfl⟩ ?_
    refine A_done (by kernel_rfl) ?_
    refine (X_then (hK7_ _ _ ?_))
    clear hK7_
    refine C_seq (fun K137_ hK137_ => ?_)
    refine C_seq (fun K138_ hK138_ => ?_)
    refine C_reg ?_
    refine S_list (T_val (v := (Value.pointer (some ⟨b2_, 6, none⟩))) (by kernel_rfl) ?_)
    refine S_list (T_val (v := (Value.bool false)) (x_load1 rfl Try.underlying4 rfl ((Holds.rd H134_ 4 rfl) 6 (Value.bool false) rfl)) ?_)
    refine wpList_nil ?_
    refine (X_then (hK138_ _ _ ?_))
    clear hK138_
    refine C_condF rfl ?_
    refine C_skip (X_then (hK137_ _ _ ?_))
    clear hK137_
    refine C_seq (fun K139_ hK139_ => ?_)
    refine C_seq (fun K140_ hK140_ => ?_)
    refine C_reg ?_
    refine S_list (T_val (v := (Value.pointer (some ⟨b2_, 0, none⟩))) (by kernel_rfl) ?_)
    refine S_list (T_val (v := (Value.int .i64 4)) (x_load1 rfl Try.underlying3 rfl ((Holds.rd H134_ 4 rfl) 0 (Value.int .i64 4) rfl)) ?_)
    refine wpList_nil ?_
    refine (X_then (hK140_ _ _ ?_))
    clear hK140_
    refine C_block ?_
    refine C_seq (fun K141_ hK141_ => ?_)
    refine C_reg ?_
    refine S_list (T_val (v := (Value.bool false)) (x_bin rfl rfl rfl) ?_)
    refine S_list (T_val (v := (Value.bool false)) (x_assign rfl) ?_)
    refine wpList_nil ?_
    refine (X_then (hK141_ _ _ ?_))
    clear hK141_
    refine C_condF rfl ?_
    refine C_seq (fun K142_ hK142_ => ?_)
    refine C_reg ?_
    refine S_list (T_val (v := (Value.bool false)) (x_bin rfl rfl rfl) ?_)
    refine S_list (T_val (v := (Value.bool false)) (x_assign rfl) ?_)
    refine wpList_nil ?_
    refine (X_then (hK142_ _ _ ?_))
    clear hK142_
    refine C_condF rfl ?_
    refine C_seq (fun K143_ hK143_ => ?_)
    refine C_reg ?_
    refine S_list (T_val (v := (Value.bool false)) (x_bin rfl rfl rfl) ?_)
    refine S_list (T_val (v := (Value.bool false)) (x_assign rfl) ?_)
    refine wpList_nil ?_
    refine (X_then (hK143_ _ _ ?_))
    clear hK143_
    refine C_condF rfl ?_
    refine C_seq (fun K144_ hK144_ => ?_)
    refine C_reg ?_
    refine S_list (T_val (v := (Value.bool false)) (x_bin rfl rfl rfl) ?_)
    refine S_list (T_val (v := (Value.bool false)) (x_assign rfl) ?_)
    refine wpList_nil ?_
    refine (X_then (hK144_ _ _ ?_))
    clear hK144_
    refine C_condF rfl ?_
    refine C_seq (fun K145_ hK145_ => ?_)
    refine C_reg ?_
    refine S_list (T_val (v := (Value.bool true)) (x_bin rfl rfl rfl) ?_)
    refine S_list (T_val (v := (Value.bool true)) (x_assign rfl) ?_)
    refine wpList_nil ?_
    refine (X_then (hK145_ _ _ ?_))
    clear hK145_
    refine C_condT rfl ?_
    refine C_reg ?_
    refine S_list (T_val (v := (Value.pointer (some ⟨b132_, 0, none⟩))) (x_move rfl) ?_)
    refine S_list (T_val (v := (Value.pointer (some ⟨b2_, 4, none⟩))) (by kernel_rfl) ?_)
    refine S_list (T_val (v := (Value.int .i64 n)) (x_load1 rfl Try.underlying2 rfl ((Holds.rd H134_ 4 rfl) 4 (Value.int .i64 n) rfl)) ?_)
    refine S_list (T_val (v := (Value.agg #[(Value.int .i64 n)])) (by kernel_rfl) ?_)
    refine S_list (T_box (v := (Value.agg #[(Value.int .i64 n)])) rfl H134_ ?_)
    intro b146_ w147_ S149_ H148_
    replace H148_ : Holds w147_ (cl b146_ 121 [(Value.int .i64 n)] :: cl b132_ 106 [(Value.int .i32 r), (Value.int .i32 4), (Value.slice (some ⟨b108_, 0, none⟩) key.size cp109_), (Value.nilIface), (Value.slice a129_ en.size cp130_)] :: ro R :: sl 5 1 (Value.slice a129_ en.size cp130_) en.size (bytesV (ints en)) :: sl 5 1 (Value.slice (some ⟨b108_, 0, none⟩) key.size cp109_) key.size (bytesV (ints key)) :: cl b2_ 31 [(Value.int .i64 4), (Value.int .i64 r), (Value.string key), (Value.string en), (Value.int .i64 n), (Value.string val), (Value.bool false)] :: F) := H148_
    have S150_ := Same.trans S136_ S149_
    refine S_list (T_val (v := (Value.iface 119 (Value.pointer (some ⟨b146_, 0, none⟩)))) (by kernel_rfl) ?_)
    refine S_list (T_val (v := (Value.pointer (some ⟨b132_, 0, none⟩))) (by kernel_rfl) ?_)
    refine S_list (T_val (v := (Value.pointer (some ⟨b132_, 3, none⟩))) (by kernel_rfl) ?_)
    refine S_list0 (T_store1 (v := (Value.iface 119 (Value.pointer (some ⟨b146_, 0, none⟩)))) rfl rfl z20 rfl H148_ 1 rfl (Nat.le_of_ble_eq_true (by rfl)) ?_)
    intro w151_ S153_ H152_
    replace H152_ : Holds w151_ (cl b146_ 121 [(Value.int .i64 n)] :: cl b132_ 106 [(Value.int .i32 r), (Value.int .i32 4), (Value.slice (some ⟨b108_, 0, none⟩) key.size cp109_), (Value.iface 119 (Value.pointer (some ⟨b146_, 0, none⟩))), (Value.slice a129_ en.size cp130_)] :: ro R :: sl 5 1 (Value.slice a129_ en.size cp130_) en.size (bytesV (ints en)) :: sl 5 1 (Value.slice (some ⟨b108_, 0, none⟩) key.size cp109_) key.size (bytesV (ints key)) :: cl b2_ 31 [(Value.int .i64 4), (Value.int .i64 r), (Value.string key), (Value.string en), (Value.int .i64 n), (Value.string val), (Value.bool false)] :: F) := H152_
    have S154_ := Same.trans S150_ S153_
    refine wpList_nil ?_
    refine (X_blkN (X_then (hK139_ _ _ ?_)))
    clear hK139_
    refine C_seq (fun K155_ hK155_ => ?_)
    refine C_reg ?_
    refine S_list (T_val (v := (Value.pointer (some ⟨b132_, 0, none⟩))) (x_move rfl) ?_)
    refine S_list (T_val (v := (Value.pointer (some ⟨b132_, 0, none⟩))) (x_assign rfl) ?_)
    refine wpList_nil ?_
    refine (X_then (hK155_ _ _ ?_))
    clear hK155_
    refine C_ret ?_
    refine R_any (v := (Value.pointer (some ⟨b132_, 0, none⟩))) (run_results1 rfl rfl) ?_
    have H156_ : Holds w151_ (ro R :: cl b132_ 106 [(Value.int .i32 r), (Value.int .i32 4), (Value.slice (some ⟨b108_, 0, none⟩) key.size cp109_), (Value.iface 119 (Value.pointer (some ⟨b146_, 0, none⟩))), (Value.slice a129_ en.size cp130_)] :: cl b146_ 121 [(Value.int .i64 n)] :: F) := (Holds.erase (Holds.erase (Holds.erase (Holds.bring (Holds.bring (Holds.bring H152_ 0 rfl) 1 rfl) 2 rfl) 3) 3) 3)
    exact ⟨_, [cl b132_ 106 [(Value.int .i32 r), (Value.int .i32 4), (Value.slice (some ⟨b108_, 0, none⟩) key.size cp109_), (Value.iface 119 (Value.pointer (some ⟨b146_, 0, none⟩))), (Value.slice a129_ en.size cp130_)], cl b146_ 121 [(Value.int .i64 n)]], rfl, ⟨b132_, b146_, (Value.slice (some ⟨b108_, 0, none⟩) key.size cp109_), (Value.slice a129_ en.size cp130_), rfl, rfl⟩, S154_, H156_⟩
  refine AllR.cons ?_ AllR.nil
  refine A_op (ls' := #[true, true, false, true, true, false, true, true, true, true, true, false, false, false, false]) rfl (by kernel_rfl) (T_s2b rfl Try.underlying9 Try.underlying25 Try.underlying5 H9_ ?_)
  intro b157_ cp158_ w159_ S161_ hc162_ H160_
  have S163_ := Same.trans (Same.trans S6_ (Same.drew _)) S161_
  have H164_ : Holds w159_ (sl 5 1 (Value.slice (some ⟨b157_, 0, none⟩) key.size cp158_) key.size (bytesV (ints key)) :: cl b2_ 31 [(Value.int .i64 4), (Value.int .i64 r), (Value.string key), (Value.string en), (Value.int .i64 n), (Value.string val), (Value.bool false)] :: ro R :: F) := cast2 (P := fun (c__ : List Value) (k__ : Nat) => Holds w159_ (sl 5 1 (Value.slice (some ⟨b157_, 0, none⟩) key.size cp158_) k__ c__ :: cl b2_ 31 [(Value.int .i64 4), (Value.int .i64 r), (Value.string key), (Value.string en), (Value.int .i64 n), (Value.string val), (Value.bool false)] :: ro R :: F)) (byteCells_bytesV _ : byteCells key = bytesV (ints key)) (rfl : key.size = key.size) H160_
  refine ⟨⟨Holds.rd H164_ 1 rfl, Holds.ro_at H164_ 2 rfl⟩, ?_⟩
  refine A_ready (i := 2) (rs := []) (by kernel_rfl) ?_
  refine AllR.cons ?_ AllR.nil
  have H165_ : Holds w159_ (ro R :: sl 5 1 (Value.slice (some ⟨b157_, 0, none⟩) key.size cp158_) key.size (bytesV (ints key)) :: cl b2_ 31 [(Value.int .i64 4), (Value.int .i64 r), (Value.string key), (Value.string en), (Value.int .i64 n), (Value.string val), (Value.bool false)] :: F) := (Holds.bring H164_ 2 rfl)
  refine A_op (ls' := #[true, true, true, true, true, false, true, true, true, true, true, false, false, false, false]) rfl (by kernel_rfl) (T_call (al := [(Value.int .i64 r)]) (pre := []) (F := sl 5 1 (Value.slice (some ⟨b157_, 0, none⟩) key.size cp158_) key.size (bytesV (ints key)) :: cl b2_ 31 [(Value.int .i64 4), (Value.int .i64 r), (Value.string key), (Value.string en), (Value.int .i64 n), (Value.string val), (Value.bool false)] :: F) rfl rfl cb61 (ordSmall R r (by omega) (by omega)) H165_ ?_)
  rintro v169_ p170_ w166_ ⟨rfl, rfl⟩ S168_ H167_
  replace H167_ : Holds w166_ (ro R :: sl 5 1 (Value.slice (some ⟨b157_, 0, none⟩) key.size cp158_) key.size (bytesV (ints key)) :: cl b2_ 31 [(Value.int .i64 4), (Value.int .i64 r), (Value.string key), (Value.string en), (Value.int .i64 n), (Value.string val), (Value.bool false)] :: F) := H167_
  have S171_ := Same.trans S163_ S168_
  refine ⟨⟨Holds.rd H167_ 2 rfl, Holds.ro_at H167_ 0 rfl⟩, ?_⟩
  refine A_ready (i := 5) (rs := []) (by kernel_rfl) ?_
  refine AllR.cons ?_ AllR.nil
  refine A_op (ls' := #[true, true, true, true, true, true, true, true, true, true, true, false, false, false, false]) rfl (by kernel_rfl) (T_call (al := [(Value.int .i64 4)]) (pre := []) (F := sl 5 1 (Value.slice (some ⟨b157_, 0, none⟩) key.size cp158_) key.size (bytesV (ints key)) :: cl b2_ 31 [(Value.int .i64 4), (Value.int .i64 r), (Value.string key), (Value.string en), (Value.int .i64 n), (Value.string val), (Value.bool false)] :: F) rfl rfl cb61 (ordSmall R 4 (by omega) (by omega)) H167_ ?_)
  rintro v175_ p176_ w172_ ⟨rfl, rfl⟩ S174_ H173_
  replace H173_ : Holds w172_ (ro R :: sl 5 1 (Value.slice (some ⟨b157_, 0, none⟩) key.size cp158_) key.size (bytesV (ints key)) :: cl b2_ 31 [(Value.int .i64 4), (Value.int .i64 r), (Value.string key), (Value.string en), (Value.int .i64 n), (Value.string val), (Value.bool false)] :: F) := H173_
  have S177_ := Same.trans S171_ S174_
  refine ⟨⟨Holds.rd H173_ 2 rfl, Holds.ro_at H173_ 0 rfl⟩, ?_⟩
  refine A_ready (i := 11) (rs := []) (by kernel_rfl) ?_
  refine AllR.cons ?_ AllR.nil
  refine A_op (ls' := #[true, true, true, true, true, true, true, true, true, true, true, true, false, false, false]) rfl (by kernel_rfl) (T_call (al := [(Value.string en)]) (pre := []) (F := sl 5 1 (Value.slice (some ⟨b157_, 0, none⟩) key.size cp158_) key.size (bytesV (ints key)) :: cl b2_ 31 [(Value.int .i64 4), (Value.int .i64 r), (Value.string key), (Value.string en), (Value.int .i64 n), (Value.string val), (Value.bool false)] :: F) rfl rfl cb62 (bytesOfC R en) H173_ ?_)
  rintro v181_ p182_ w178_ rfl S180_ H179_
  replace H179_ : Holds w178_ (ro R :: sl 5 1 v181_ en.size (bytesV (ints en)) :: sl 5 1 (Value.slice (some ⟨b157_, 0, none⟩) key.size cp158_) key.size (bytesV (ints key)) :: cl b2_ 31 [(Value.int .i64 4), (Value.int .i64 r), (Value.string key), (Value.string en), (Value.int .i64 n), (Value.string val), (Value.bool false)] :: F) := H179_
  have S183_ := Same.trans S177_ S180_
  obtain ⟨-, a184_, cp185_, rfl, hle186_⟩ := Holds.sl_len H179_ 1 rfl
  refine ⟨⟨Holds.rd H179_ 3 rfl, Holds.ro_at H179_ 0 rfl⟩, ?_⟩
  refine A_take 12 (ls' := #[true, true, true, true, true, true, true, true, true, true, true, true, true, false, false]) (v := (Value.agg #[(Value.int .i32 r), (Value.int .i32 4), (Value.slice (some ⟨b157_, 0, none⟩) key.size cp158_), (Value.nilIface), (Value.slice a184_ en.size cp185_)])) rfl (by kernel_rfl) (by kernel_rfl) (by kernel_rfl) (by kernel_rfl) (fun _ _ _ h => h) (fun w hS => by kernel_rfl) ⟨Holds.rd H179_ 3 rfl, Holds.ro_at H179_ 0 rfl⟩ ?_
  refine A_ready (i := 13) (rs := []) (by kernel_rfl) ?_
  refine AllR.cons ?_ AllR.nil
  refine A_op (ls' := #[true, true, true, true, true, true, true, true, true, true, true, true, true, true, false]) rfl (by kernel_rfl) (T_box (v := (Value.agg #[(Value.int .i32 r), (Value.int .i32 4), (Value.slice (some ⟨b157_, 0, none⟩) key.size cp158_), (Value.nilIface), (Value.slice a184_ en.size cp185_)])) rfl H179_ ?_)
  intro b187_ w188_ S190_ H189_
  replace H189_ : Holds w188_ (cl b187_ 106 [(Value.int .i32 r), (Value.int .i32 4), (Value.slice (some ⟨b157_, 0, none⟩) key.size cp158_), (Value.nilIface), (Value.slice a184_ en.size cp185_)] :: ro R :: sl 5 1 (Value.slice a184_ en.size cp185_) en.size (bytesV (ints en)) :: sl 5 1 (Value.slice (some ⟨b157_, 0, none⟩) key.size cp158_) key.size (bytesV (ints key)) :: cl b2_ 31 [(Value.int .i64 4), (Value.int .i64 r), (Value.string key), (Value.string en), (Value.int .i64 n), (Value.string val), (Value.bool false)] :: F) := H189_
  have S191_ := Same.trans S183_ S190_
  refine ⟨⟨Holds.rd H189_ 4 rfl, Holds.ro_at H189_ 1 rfl⟩, ?_⟩
  refine A_take 14 (ls' := #[true, true, true, true, true, true, true, true, true, true, true, true, true, true, true]) (v := (Value.pointer (some ⟨b187_, 0, none⟩))) rfl (by kernel_rfl) (by kernel_rfl) (by kernel_rfl) (by kernel_rfl) (fun _ _ _ h => h) (fun w hS => x_assign rfl) ⟨Holds.rd H189_ 4 rfl, Holds.ro_at H189_ 1 rfl⟩ ?_
  refine A_done (by kernel_rfl) ?_
  refine (X_then (hK7_ _ _ ?_))
  clear hK7_
  refine C_seq (fun K192_ hK192_ => ?_)
  refine C_seq (fun K193_ hK193_ => ?_)
  refine C_reg ?_
  refine S_list (T_val (v := (Value.pointer (some ⟨b2_, 6, none⟩))) (by kernel_rfl) ?_)
  refine S_list (T_val (v := (Value.bool false)) (x_load1 rfl Try.underlying4 rfl ((Holds.rd H189_ 4 rfl) 6 (Value.bool false) rfl)) ?_)
  refine wpList_nil ?_
  refine (X_then (hK193_ _ _ ?_))
  clear hK193_
  refine C_condF rfl ?_
  refine C_skip (X_then (hK192_ _ _ ?_))
  clear hK192_
  refine C_seq (fun K194_ hK194_ => ?_)
  refine C_seq (fun K195_ hK195_ => ?_)
  refine C_reg ?_
  refine S_list (T_val (v := (Value.pointer (some ⟨b2_, 0, none⟩))) (by kernel_rfl) ?_)
  refine S_list (T_val (v := (Value.int .i64 4)) (x_load1 rfl Try.underlying3 rfl ((Holds.rd H189_ 4 rfl) 0 (Value.int .i64 4) rfl)) ?_)
  refine wpList_nil ?_
  refine (X_then (hK195_ _ _ ?_))
  clear hK195_
  refine C_block ?_
  refine C_seq (fun K196_ hK196_ => ?_)
  refine C_reg ?_
  refine S_list (T_val (v := (Value.bool false)) (x_bin rfl rfl rfl) ?_)
  refine S_list (T_val (v := (Value.bool false)) (x_assign rfl) ?_)
  refine wpList_nil ?_
  refine (X_then (hK196_ _ _ ?_))
  clear hK196_
  refine C_condF rfl ?_
  refine C_seq (fun K197_ hK197_ => ?_)
  refine C_reg ?_
  refine S_list (T_val (v := (Value.bool false)) (x_bin rfl rfl rfl) ?_)
  refine S_list (T_val (v := (Value.bool false)) (x_assign rfl) ?_)
  refine wpList_nil ?_
  refine (X_then (hK197_ _ _ ?_))
  clear hK197_
  refine C_condF rfl ?_
  refine C_seq (fun K198_ hK198_ => ?_)
  refine C_reg ?_
  refine S_list (T_val (v := (Value.bool false)) (x_bin rfl rfl rfl) ?_)
  refine S_list (T_val (v := (Value.bool false)) (x_assign rfl) ?_)
  refine wpList_nil ?_
  refine (X_then (hK198_ _ _ ?_))
  clear hK198_
  refine C_condF rfl ?_
  refine C_seq (fun K199_ hK199_ => ?_)
  refine C_reg ?_
  refine S_list (T_val (v := (Value.bool false)) (x_bin rfl rfl rfl) ?_)
  refine S_list (T_val (v := (Value.bool false)) (x_assign rfl) ?_)
  refine wpList_nil ?_
  refine (X_then (hK199_ _ _ ?_))
  clear hK199_
  refine C_condF rfl ?_
  refine C_seq (fun K200_ hK200_ => ?_)
  refine C_reg ?_
  refine S_list (T_val (v := (Value.bool true)) (x_bin rfl rfl rfl) ?_)
  refine S_list (T_val (v := (Value.bool true)) (x_assign rfl) ?_)
  refine wpList_nil ?_
  refine (X_then (hK200_ _ _ ?_))
  clear hK200_
  refine C_condT rfl ?_
  refine C_reg ?_
  refine S_list (T_val (v := (Value.pointer (some ⟨b187_, 0, none⟩))) (x_move rfl) ?_)
  refine S_list (T_val (v := (Value.pointer (some ⟨b2_, 4, none⟩))) (by kernel_rfl) ?_)
  refine S_list (T_val (v := (Value.int .i64 n)) (x_load1 rfl Try.underlying2 rfl ((Holds.rd H189_ 4 rfl) 4 (Value.int .i64 n) rfl)) ?_)
  refine S_list (T_val (v := (Value.agg #[(Value.int .i64 n)])) (by kernel_rfl) ?_)
  refine S_list (T_box (v := (Value.agg #[(Value.int .i64 n)])) rfl H189_ ?_)
  intro b201_ w202_ S204_ H203_
  replace H203_ : Holds w202_ (cl b201_ 121 [(Value.int .i64 n)] :: cl b187_ 106 [(Value.int .i32 r), (Value.int .i32 4), (Value.slice (some ⟨b157_, 0, none⟩) key.size cp158_), (Value.nilIface), (Value.slice a184_ en.size cp185_)] :: ro R :: sl 5 1 (Value.slice a184_ en.size cp185_) en.size (bytesV (ints en)) :: sl 5 1 (Value.slice (some ⟨b157_, 0, none⟩) key.size cp158_) key.size (bytesV (ints key)) :: cl b2_ 31 [(Value.int .i64 4), (Value.int .i64 r), (Value.string key), (Value.string en), (Value.int .i64 n), (Value.string val), (Value.bool false)] :: F) := H203_
  have S205_ := Same.trans S191_ S204_
  refine S_list (T_val (v := (Value.iface 119 (Value.pointer (some ⟨b201_, 0, none⟩)))) (by kernel_rfl) ?_)
  refine S_list (T_val (v := (Value.pointer (some ⟨b187_, 0, none⟩))) (by kernel_rfl) ?_)
  refine S_list (T_val (v := (Value.pointer (some ⟨b187_, 3, none⟩))) (by kernel_rfl) ?_)
  refine S_list0 (T_store1 (v := (Value.iface 119 (Value.pointer (some ⟨b201_, 0, none⟩)))) rfl rfl z20 rfl H203_ 1 rfl (Nat.le_of_ble_eq_true (by rfl)) ?_)
  intro w206_ S208_ H207_
  replace H207_ : Holds w206_ (cl b201_ 121 [(Value.int .i64 n)] :: cl b187_ 106 [(Value.int .i32 r), (Value.int .i32 4), (Value.slice (some ⟨b157_, 0, none⟩) key.size cp158_), (Value.iface 119 (Value.pointer (some ⟨b201_, 0, none⟩))), (Value.slice a184_ en.size cp185_)] :: ro R :: sl 5 1 (Value.slice a184_ en.size cp185_) en.size (bytesV (ints en)) :: sl 5 1 (Value.slice (some ⟨b157_, 0, none⟩) key.size cp158_) key.size (bytesV (ints key)) :: cl b2_ 31 [(Value.int .i64 4), (Value.int .i64 r), (Value.string key), (Value.string en), (Value.int .i64 n), (Value.string val), (Value.bool false)] :: F) := H207_
  have S209_ := Same.trans S205_ S208_
  refine wpList_nil ?_
  refine (X_blkN (X_then (hK194_ _ _ ?_)))
  clear hK194_
  refine C_seq (fun K210_ hK210_ => ?_)
  refine C_reg ?_
  refine S_list (T_val (v := (Value.pointer (some ⟨b187_, 0, none⟩))) (x_move rfl) ?_)
  refine S_list (T_val (v := (Value.pointer (some ⟨b187_, 0, none⟩))) (x_assign rfl) ?_)
  refine wpList_nil ?_
  refine (X_then (hK210_ _ _ ?_))
  clear hK210_
  refine C_ret ?_
  refine R_any (v := (Value.pointer (some ⟨b187_, 0, none⟩))) (run_results1 rfl rfl) ?_
  have H211_ : Holds w206_ (ro R :: cl b187_ 106 [(Value.int .i32 r), (Value.int .i32 4), (Value.slice (some ⟨b157_, 0, none⟩) key.size cp158_), (Value.iface 119 (Value.pointer (some ⟨b201_, 0, none⟩))), (Value.slice a184_ en.size cp185_)] :: cl b201_ 121 [(Value.int .i64 n)] :: F) := (Holds.erase (Holds.erase (Holds.erase (Holds.bring (Holds.bring (Holds.bring H207_ 0 rfl) 1 rfl) 2 rfl) 3) 3) 3)
  exact ⟨_, [cl b187_ 106 [(Value.int .i32 r), (Value.int .i32 4), (Value.slice (some ⟨b157_, 0, none⟩) key.size cp158_), (Value.iface 119 (Value.pointer (some ⟨b201_, 0, none⟩))), (Value.slice a184_ en.size cp185_)], cl b201_ 121 [(Value.int .i64 n)]], rfl, ⟨b187_, b201_, (Value.slice (some ⟨b157_, 0, none⟩) key.size cp158_), (Value.slice a184_ en.size cp185_), rfl, rfl⟩, S209_, H211_⟩

set_option maxHeartbeats 400000 in
theorem kvCmp0t (R : HP) (c kk u : Nat) (r : Int) (K E KK XV VV : Value) (cr md vr ls n : Int) (x val : ByteArray) (h0 : 0 ≤ r) (h1 : r ≤ 3) :
    Tri Try.prog 60 #[(Value.pointer (some ⟨c, 0, none⟩)), (Value.pointer (some ⟨kk, 0, none⟩))] R [cl c 106 [(Value.int .i32 r), (Value.int .i32 0), K, (Value.nilIface), E], cl kk 123 [KK, (Value.int .i64 cr), (Value.int .i64 md), (Value.int .i64 vr), XV, (Value.int .i64 ls)]] (fun v post => v = .bool (resOk r (ordI vr 0)) ∧ post = []) := by
  refine Tri.into (n := 152) (al := [(Value.pointer (some ⟨c, 0, none⟩)), (Value.pointer (some ⟨kk, 0, none⟩))]) Try.func60 rfl Try.ntmps60 rfl rfl fun w F H => ?_
  replace H : Holds w (ro R :: cl c 106 [(Value.int .i32 r), (Value.int .i32 0), K, (Value.nilIface), E] :: cl kk 123 [KK, (Value.int .i64 cr), (Value.int .i64 md), (Value.int .i64 vr), XV, (Value.int .i64 ls)] :: F) := H
  refine C_seq (fun K1_ hK1_ => ?_)
  refine C_reg ?_
  refine S_list (T_val (v := (Value.bool false)) (x_assign rfl) ?_)
  refine wpList_nil ?_
  refine (X_then (hK1_ _ _ ?_))
  clear hK1_
  refine C_seq (fun K2_ hK2_ => ?_)
  refine C_reg ?_
  refine S_list (T_val (v := (Value.int .i64 0)) (x_assign rfl) ?_)
  refine wpList_nil ?_
  refine (X_then (hK2_ _ _ ?_))
  clear hK2_
  refine C_seq (fun K3_ hK3_ => ?_)
  refine C_reg ?_
  refine S_list (T_val (v := (Value.int .i64 0)) (x_assign rfl) ?_)
  refine wpList_nil ?_
  refine (X_then (hK3_ _ _ ?_))
  clear hK3_
  refine C_seq (fun K4_ hK4_ => ?_)
  refine C_seq (fun K5_ hK5_ => ?_)
  refine C_reg ?_
  refine S_list (T_val (v := (Value.pointer (some ⟨c, 0, none⟩))) (x_move rfl) ?_)
  refine S_list (T_val (v := (Value.pointer (some ⟨c, 0, none⟩))) (by kernel_rfl) ?_)
  refine S_list (T_val (v := (Value.pointer (some ⟨c, 1, none⟩))) (by kernel_rfl) ?_)
  refine S_list (T_val (v := (Value.int .i32 0)) (x_load1 rfl Try.underlying103 rfl ((Holds.rd H 1 rfl) 1 (Value.int .i32 0) rfl)) ?_)
  refine wpList_nil ?_
  refine (X_then (hK5_ _ _ ?_))
  clear hK5_
  refine C_block ?_
  refine C_seq (fun K6_ hK6_ => ?_)
  refine C_reg ?_
  refine S_list (T_val (v := (Value.bool false)) (x_bin rfl rfl rfl) ?_)
  refine S_list (T_val (v := (Value.bool false)) (x_assign rfl) ?_)
  refine wpList_nil ?_
  refine (X_then (hK6_ _ _ ?_))
  clear hK6_
  refine C_condF rfl ?_
  refine C_seq (fun K7_ hK7_ => ?_)
  refine C_reg ?_
  refine S_list (T_val (v := (Value.bool false)) (x_bin rfl rfl rfl) ?_)
  refine S_list (T_val (v := (Value.bool false)) (x_assign rfl) ?_)
  refine wpList_nil ?_
  refine (X_then (hK7_ _ _ ?_))
  clear hK7_
  refine C_condF rfl ?_
  refine C_seq (fun K8_ hK8_ => ?_)
  refine C_reg ?_
  refine S_list (T_val (v := (Value.bool false)) (x_bin rfl rfl rfl) ?_)
  refine S_list (T_val (v := (Value.bool false)) (x_assign rfl) ?_)
  refine wpList_nil ?_
  refine (X_then (hK8_ _ _ ?_))
  clear hK8_
  refine C_condF rfl ?_
  refine C_seq (fun K9_ hK9_ => ?_)
  refine C_reg ?_
  refine S_list (T_val (v := (Value.bool true)) (x_bin rfl rfl rfl) ?_)
  refine S_list (T_val (v := (Value.bool true)) (x_assign rfl) ?_)
  refine wpList_nil ?_
  refine (X_then (hK9_ _ _ ?_))
  clear hK9_
  refine C_condT rfl ?_
  refine C_seq (fun K10_ hK10_ => ?_)
  refine C_seq (fun K11_ hK11_ => ?_)
  refine C_reg ?_
  refine S_list (T_val (v := (Value.pointer (some ⟨c, 0, none⟩))) (x_move rfl) ?_)
  refine S_list (T_val (v := (Value.pointer (some ⟨c, 0, none⟩))) (by kernel_rfl) ?_)
  refine S_list (T_val (v := (Value.pointer (some ⟨c, 3, none⟩))) (by kernel_rfl) ?_)
  refine S_list (T_val (v := (Value.nilIface)) (x_load1 rfl Try.underlying20 rfl ((Holds.rd H 1 rfl) 3 (Value.nilIface) rfl)) ?_)
  refine S_list (T_val (v := (Value.tuple #[(Value.pointer none), (Value.bool false)])) (by kernel_rfl) ?_)
  refine S_list (T_val (v := (Value.tuple #[(Value.pointer none), (Value.bool false)])) (x_move rfl) ?_)
  refine S_list (T_val (v := (Value.pointer none)) (by kernel_rfl) ?_)
  refine S_list (T_val (v := (Value.bool false)) (by kernel_rfl) ?_)
  refine S_list (T_val (v := (Value.pointer none)) (x_assign rfl) ?_)
  refine S_list (T_val (v := (Value.bool false)) (x_assign rfl) ?_)
  refine wpList_nil ?_
  refine (X_then (hK11_ _ _ ?_))
  clear hK11_
  refine C_seq (fun K12_ hK12_ => ?_)
  refine C_reg ?_
  refine S_list (T_val (v := (Value.pointer none)) (x_move rfl) ?_)
  refine S_list (T_val (v := (Value.bool false)) (by kernel_rfl) ?_)
  refine wpList_nil ?_
  refine (X_then (hK12_ _ _ ?_))
  clear hK12_
  refine C_condF rfl ?_
  refine C_skip (X_then (hK10_ _ _ ?_))
  clear hK10_
  refine C_reg ?_
  refine S_list (T_val (v := (Value.pointer (some ⟨kk, 0, none⟩))) (x_move rfl) ?_)
  refine S_list (T_val (v := (Value.pointer (some ⟨kk, 0, none⟩))) (by kernel_rfl) ?_)
  refine S_list (T_val (v := (Value.pointer (some ⟨kk, 3, none⟩))) (by kernel_rfl) ?_)
  refine S_list (T_val (v := (Value.int .i64 vr)) (x_load1 rfl Try.underlying2 rfl ((Holds.rd H 2 rfl) 3 (Value.int .i64 vr) rfl)) ?_)
  refine S_list (T_val (v := (Value.int .i64 0)) (x_move rfl) ?_)
  refine S_list (T_call (al := [(Value.int .i64 vr), (Value.int .i64 0)]) (pre := []) (F := cl c 106 [(Value.int .i32 r), (Value.int .i32 0), K, (Value.nilIface), E] :: cl kk 123 [KK, (Value.int .i64 cr), (Value.int .i64 md), (Value.int .i64 vr), XV, (Value.int .i64 ls)] :: F) rfl rfl cb72 (cmpI64 R vr 0) H ?_)
  rintro v16_ p17_ w13_ ⟨rfl, rfl⟩ S15_ H14_
  replace H14_ : Holds w13_ (ro R :: cl c 106 [(Value.int .i32 r), (Value.int .i32 0), K, (Value.nilIface), E] :: cl kk 123 [KK, (Value.int .i64 cr), (Value.int .i64 md), (Value.int .i64 vr), XV, (Value.int .i64 ls)] :: F) := H14_
  have S18_ := Same.trans (Same.refl w) S15_
  refine S_list (T_val (v := (Value.int .i64 (ordI vr 0))) (x_assign rfl) ?_)
  refine wpList_nil ?_
  refine (X_blkN (X_then (hK4_ _ _ ?_)))
  clear hK4_
  refine C_seq (fun K19_ hK19_ => ?_)
  refine C_seq (fun K20_ hK20_ => ?_)
  refine C_reg ?_
  refine S_list (T_val (v := (Value.pointer (some ⟨c, 0, none⟩))) (x_move rfl) ?_)
  refine S_list (T_val (v := (Value.pointer (some ⟨c, 0, none⟩))) (by kernel_rfl) ?_)
  refine S_list (T_val (v := (Value.pointer (some ⟨c, 0, none⟩))) (by kernel_rfl) ?_)
  refine S_list (T_val (v := (Value.int .i32 r)) (x_load1 rfl Try.underlying101 rfl ((Holds.rd H14_ 1 rfl) 0 (Value.int .i32 r) rfl)) ?_)
  refine wpList_nil ?_
  refine (X_then (hK20_ _ _ ?_))
  clear hK20_
  refine C_block ?_
  refine C_seq (fun K21_ hK21_ => ?_)
  refine C_reg ?_
  refine S_list (T_val (v := (Value.bool (decide (r = 0)))) (x_bin rfl rfl rfl) ?_)
  refine S_list (T_val (v := (Value.bool (decide (r = 0)))) (x_assign rfl) ?_)
  refine wpList_nil ?_
  refine (X_then (hK21_ _ _ ?_))
  clear hK21_
  refine C_cond (b := decide (r = 0)) rfl (fun c22_t => ?_) (fun c22_f => ?_)
  · have c22_tp : r = 0 := of_decide_eq_true c22_t
    refine C_seq (fun K23_ hK23_ => ?_)
    refine C_reg ?_
    refine S_list (T_val (v := (Value.int .i64 (ordI vr 0))) (x_move rfl) ?_)
    refine S_list (T_val (v := (Value.bool (decide (ordI vr 0 = 0)))) (x_bin rfl rfl rfl) ?_)
    refine S_list (T_val (v := (Value.bool (decide (ordI vr 0 = 0)))) (x_assign rfl) ?_)
    refine wpList_nil ?_
    refine (X_then (hK23_ _ _ ?_))
    clear hK23_
    refine C_ret (X_blkR (X_thenR ?_))
    refine R_any (v := (Value.bool (decide (ordI vr 0 = 0)))) (run_results1 rfl rfl) ?_
    have H24_ : Holds w13_ (ro R :: F) := (Holds.erase (Holds.erase (Holds.bring H14_ 0 rfl) 1) 1)
    exact ⟨_, [], rfl, ⟨by rw [show r = 0 by omega]; rfl, rfl⟩, S18_, H24_⟩
  · have c22_fp : ¬ (r = 0) := of_decide_eq_false c22_f
    refine C_seq (fun K25_ hK25_ => ?_)
    refine C_reg ?_
    refine S_list (T_val (v := (Value.bool (decide (r = 3)))) (x_bin rfl rfl rfl) ?_)
    refine S_list (T_val (v := (Value.bool (decide (r = 3)))) (x_assign rfl) ?_)
    refine wpList_nil ?_
    refine (X_then (hK25_ _ _ ?_))
    clear hK25_
    refine C_cond (b := decide (r = 3)) rfl (fun c26_t => ?_) (fun c26_f => ?_)
    · have c26_tp : r = 3 := of_decide_eq_true c26_t
      refine C_seq (fun K27_ hK27_ => ?_)
      refine C_reg ?_
      refine S_list (T_val (v := (Value.int .i64 (ordI vr 0))) (x_move rfl) ?_)
      refine S_list (T_val (v := (Value.bool (decide (ordI vr 0 ≠ 0)))) (x_bin rfl rfl rfl) ?_)
      refine S_list (T_val (v := (Value.bool (decide (ordI vr 0 ≠ 0)))) (x_assign rfl) ?_)
      refine wpList_nil ?_
      refine (X_then (hK27_ _ _ ?_))
      clear hK27_
      refine C_ret (X_blkR (X_thenR ?_))
      refine R_any (v := (Value.bool (decide (ordI vr 0 ≠ 0)))) (run_results1 rfl rfl) ?_
      have H28_ : Holds w13_ (ro R :: F) := (Holds.erase (Holds.erase (Holds.bring H14_ 0 rfl) 1) 1)
      exact ⟨_, [], rfl, ⟨by rw [show r = 3 by omega]; rfl, rfl⟩, S18_, H28_⟩
    · have c26_fp : ¬ (r = 3) := of_decide_eq_false c26_f
      refine C_seq (fun K29_ hK29_ => ?_)
      refine C_reg ?_
      refine S_list (T_val (v := (Value.bool (decide (r = 1)))) (x_bin rfl rfl rfl) ?_)
      refine S_list (T_val (v := (Value.bool (decide (r = 1)))) (x_assign rfl) ?_)
      refine wpList_nil ?_
      refine (X_then (hK29_ _ _ ?_))
      clear hK29_
      refine C_cond (b := decide (r = 1)) rfl (fun c30_t => ?_) (fun c30_f => ?_)
      · have c30_tp : r = 1 := of_decide_eq_true c30_t
        refine C_seq (fun K31_ hK31_ => ?_)
        refine C_reg ?_
        refine S_list (T_val (v := (Value.int .i64 (ordI vr 0))) (x_move rfl) ?_)
        refine S_list (T_val (v := (Value.bool (decide (0 < ordI vr 0)))) (x_bin rfl rfl rfl) ?_)
        refine S_list (T_val (v := (Value.bool (decide (0 < ordI vr 0)))) (x_assign rfl) ?_)
        refine wpList_nil ?_
        refine (X_then (hK31_ _ _ ?_))
        clear hK31_
        refine C_ret (X_blkR (X_thenR ?_))
        refine R_any (v := (Value.bool (decide (0 < ordI vr 0)))) (run_results1 rfl rfl) ?_
        have H32_ : Holds w13_ (ro R :: F) := (Holds.erase (Holds.erase (Holds.bring H14_ 0 rfl) 1) 1)
        exact ⟨_, [], rfl, ⟨by rw [show r = 1 by omega]; rfl, rfl⟩, S18_, H32_⟩
      · have c30_fp : ¬ (r = 1) := of_decide_eq_false c30_f
        refine C_seq (fun K33_ hK33_ => ?_)
        refine C_reg ?_
        refine S_list (T_val (v := (Value.bool (decide (r = 2)))) (x_bin rfl rfl rfl) ?_)
        refine S_list (T_val (v := (Value.bool (decide (r = 2)))) (x_assign rfl) ?_)
        refine wpList_nil ?_
        refine (X_then (hK33_ _ _ ?_))
        clear hK33_
        refine C_cond (b := decide (r = 2)) rfl (fun c34_t => ?_) (fun c34_f => ?_)
        · have c34_tp : r = 2 := of_decide_eq_true c34_t
          refine C_seq (fun K35_ hK35_ => ?_)
          refine C_reg ?_
          refine S_list (T_val (v := (Value.int .i64 (ordI vr 0))) (x_move rfl) ?_)
          refine S_list (T_val (v := (Value.bool (decide (ordI vr 0 < 0)))) (x_bin rfl rfl rfl) ?_)
          refine S_list (T_val (v := (Value.bool (decide (ordI vr 0 < 0)))) (x_assign rfl) ?_)
          refine wpList_nil ?_
          refine (X_then (hK35_ _ _ ?_))
          clear hK35_
          refine C_ret (X_blkR (X_thenR ?_))
          refine R_any (v := (Value.bool (decide (ordI vr 0 < 0)))) (run_results1 rfl rfl) ?_
          have H36_ : Holds w13_ (ro R :: F) := (Holds.erase (Holds.erase (Holds.bring H14_ 0 rfl) 1) 1)
          exact ⟨_, [], rfl, ⟨by rw [show r = 2 by omega]; rfl, rfl⟩, S18_, H36_⟩
        · have c34_fp : ¬ (r = 2) := of_decide_eq_false c34_f
          omega

set_option maxHeartbeats 400000 in
theorem kvCmp0f (R : HP) (c kk u : Nat) (r : Int) (K E KK XV VV : Value) (cr md vr ls n : Int) (x val : ByteArray) (h0 : 0 ≤ r) (h1 : r ≤ 3) :
    Tri Try.prog 60 #[(Value.pointer (some ⟨c, 0, none⟩)), (Value.pointer (some ⟨kk, 0, none⟩))] R [cl c 106 [(Value.int .i32 r), (Value.int .i32 0), K, (Value.iface 107 (Value.pointer (some ⟨u, 0, none⟩))), E], cl kk 123 [KK, (Value.int .i64 cr), (Value.int .i64 md), (Value.int .i64 vr), XV, (Value.int .i64 ls)], cl u 109 [(Value.int .i64 n)]] (fun v post => v = .bool (resOk r (ordI vr n)) ∧ post = []) := by
  refine Tri.into (n := 152) (al := [(Value.pointer (some ⟨c, 0, none⟩)), (Value.pointer (some ⟨kk, 0, none⟩))]) Try.func60 rfl Try.ntmps60 rfl rfl fun w F H => ?_
  replace H : Holds w (ro R :: cl c 106 [(Value.int .i32 r), (Value.int .i32 0), K, (Value.iface 107 (Value.pointer (some ⟨u, 0, none⟩))), E] :: cl kk 123 [KK, (Value.int .i64 cr), (Value.int .i64 md), (Value.int .i64 vr), XV, (Value.int .i64 ls)] :: cl u 109 [(Value.int .i64 n)] :: F) := H
  refine C_seq (fun K1_ hK1_ => ?_)
  refine C_reg ?_
  refine S_list (T_val (v := (Value.bool false)) (x_assign rfl) ?_)
  refine wpList_nil ?_
  refine (X_then (hK1_ _ _ ?_))
  clear hK1_
  refine C_seq (fun K2_ hK2_ => ?_)
  refine C_reg ?_
  refine S_list (T_val (v := (Value.int .i64 0)) (x_assign rfl) ?_)
  refine wpList_nil ?_
  refine (X_then (hK2_ _ _ ?_))
  clear hK2_
  refine C_seq (fun K3_ hK3_ => ?_)
  refine C_reg ?_
  refine S_list (T_val (v := (Value.int .i64 0)) (x_assign rfl) ?_)
  refine wpList_nil ?_
  refine (X_then (hK3_ _ _ ?_))
  clear hK3_
  refine C_seq (fun K4_ hK4_ => ?_)
  refine C_seq (fun K5_ hK5_ => ?_)
  refine C_reg ?_
  refine S_list (T_val (v := (Value.pointer (some ⟨c, 0, none⟩))) (x_move rfl) ?_)
  refine S_list (T_val (v := (Value.pointer (some ⟨c, 0, none⟩))) (by kernel_rfl) ?_)
  refine S_list (T_val (v := (Value.pointer (some ⟨c, 1, none⟩))) (by kernel_rfl) ?_)
  refine S_list (T_val (v := (Value.int .i32 0)) (x_load1 rfl Try.underlying103 rfl ((Holds.rd H 1 rfl) 1 (Value.int .i32 0) rfl)) ?_)
  refine wpList_nil ?_
  refine (X_then (hK5_ _ _ ?_))
  clear hK5_
  refine C_block ?_
  refine C_seq (fun K6_ hK6_ => ?_)
  refine C_reg ?_
  refine S_list (T_val (v := (Value.bool false)) (x_bin rfl rfl rfl) ?_)
  refine S_list (T_val (v := (Value.bool false)) (x_assign rfl) ?_)
  refine wpList_nil ?_
  refine (X_then (hK6_ _ _ ?_))
  clear hK6_
  refine C_condF rfl ?_
  refine C_seq (fun K7_ hK7_ => ?_)
  refine C_reg ?_
  refine S_list (T_val (v := (Value.bool false)) (x_bin rfl rfl rfl) ?_)
  refine S_list (T_val (v := (Value.bool false)) (x_assign rfl) ?_)
  refine wpList_nil ?_
  refine (X_then (hK7_ _ _ ?_))
  clear hK7_
  refine C_condF rfl ?_
  refine C_seq (fun K8_ hK8_ => ?_)
  refine C_reg ?_
  refine S_list (T_val (v := (Value.bool false)) (x_bin rfl rfl rfl) ?_)
  refine S_list (T_val (v := (Value.bool false)) (x_assign rfl) ?_)
  refine wpList_nil ?_
  refine (X_then (hK8_ _ _ ?_))
  clear hK8_
  refine C_condF rfl ?_
  refine C_seq (fun K9_ hK9_ => ?_)
  refine C_reg ?_
  refine S_list (T_val (v := (Value.bool true)) (x_bin rfl rfl rfl) ?_)
  refine S_list (T_val (v := (Value.bool true)) (x_assign rfl) ?_)
  refine wpList_nil ?_
  refine (X_then (hK9_ _ _ ?_))
  clear hK9_
  refine C_condT rfl ?_
  refine C_seq (fun K10_ hK10_ => ?_)
  refine C_seq (fun K11_ hK11_ => ?_)
  refine C_reg ?_
  refine S_list (T_val (v := (Value.pointer (some ⟨c, 0, none⟩))) (x_move rfl) ?_)
  refine S_list (T_val (v := (Value.pointer (some ⟨c, 0, none⟩))) (by kernel_rfl) ?_)
  refine S_list (T_val (v := (Value.pointer (some ⟨c, 3, none⟩))) (by kernel_rfl) ?_)
  refine S_list (T_val (v := (Value.iface 107 (Value.pointer (some ⟨u, 0, none⟩)))) (x_load1 rfl Try.underlying20 rfl ((Holds.rd H 1 rfl) 3 (Value.iface 107 (Value.pointer (some ⟨u, 0, none⟩))) rfl)) ?_)
  refine S_list (T_val (v := (Value.tuple #[(Value.pointer (some ⟨u, 0, none⟩)), (Value.bool true)])) (by kernel_rfl) ?_)
  refine S_list (T_val (v := (Value.tuple #[(Value.pointer (some ⟨u, 0, none⟩)), (Value.bool true)])) (x_move rfl) ?_)
  refine S_list (T_val (v := (Value.pointer (some ⟨u, 0, none⟩))) (by kernel_rfl) ?_)
  refine S_list (T_val (v := (Value.bool true)) (by kernel_rfl) ?_)
  refine S_list (T_val (v := (Value.pointer (some ⟨u, 0, none⟩))) (x_assign rfl) ?_)
  refine S_list (T_val (v := (Value.bool true)) (x_assign rfl) ?_)
  refine wpList_nil ?_
  refine (X_then (hK11_ _ _ ?_))
  clear hK11_
  refine C_seq (fun K12_ hK12_ => ?_)
  refine C_reg ?_
  refine S_list (T_val (v := (Value.pointer (some ⟨u, 0, none⟩))) (x_move rfl) ?_)
  refine S_list (T_val (v := (Value.bool true)) (by kernel_rfl) ?_)
  refine wpList_nil ?_
  refine (X_then (hK12_ _ _ ?_))
  clear hK12_
  refine C_condT rfl ?_
  refine C_reg ?_
  refine S_list (T_val (v := (Value.pointer (some ⟨u, 0, none⟩))) (x_move rfl) ?_)
  refine S_list (T_val (v := (Value.pointer (some ⟨u, 0, none⟩))) (by kernel_rfl) ?_)
  refine S_list (T_val (v := (Value.pointer (some ⟨u, 0, none⟩))) (by kernel_rfl) ?_)
  refine S_list (T_val (v := (Value.int .i64 n)) (x_load1 rfl Try.underlying2 rfl ((Holds.rd H 3 rfl) 0 (Value.int .i64 n) rfl)) ?_)
  refine S_list (T_val (v := (Value.int .i64 n)) (x_assign rfl) ?_)
  refine wpList_nil ?_
  refine (X_then (hK10_ _ _ ?_))
  clear hK10_
  refine C_reg ?_
  refine S_list (T_val (v := (Value.pointer (some ⟨kk, 0, none⟩))) (x_move rfl) ?_)
  refine S_list (T_val (v := (Value.pointer (some ⟨kk, 0, none⟩))) (by kernel_rfl) ?_)
  refine S_list (T_val (v := (Value.pointer (some ⟨kk, 3, none⟩))) (by kernel_rfl) ?_)
  refine S_list (T_val (v := (Value.int .i64 vr)) (x_load1 rfl Try.underlying2 rfl ((Holds.rd H 2 rfl) 3 (Value.int .i64 vr) rfl)) ?_)
  refine S_list (T_val (v := (Value.int .i64 n)) (x_move rfl) ?_)
  refine S_list (T_call (al := [(Value.int .i64 vr), (Value.int .i64 n)]) (pre := []) (F := cl c 106 [(Value.int .i32 r), (Value.int .i32 0), K, (Value.iface 107 (Value.pointer (some ⟨u, 0, none⟩))), E] :: cl kk 123 [KK, (Value.int .i64 cr), (Value.int .i64 md), (Value.int .i64 vr), XV, (Value.int .i64 ls)] :: cl u 109 [(Value.int .i64 n)] :: F) rfl rfl cb72 (cmpI64 R vr n) H ?_)
  rintro v16_ p17_ w13_ ⟨rfl, rfl⟩ S15_ H14_
  replace H14_ : Holds w13_ (ro R :: cl c 106 [(Value.int .i32 r), (Value.int .i32 0), K, (Value.iface 107 (Value.pointer (some ⟨u, 0, none⟩))), E] :: cl kk 123 [KK, (Value.int .i64 cr), (Value.int .i64 md), (Value.int .i64 vr), XV, (Value.int .i64 ls)] :: cl u 109 [(Value.int .i64 n)] :: F) := H14_
  have S18_ := Same.trans (Same.refl w) S15_
  refine S_list (T_val (v := (Value.int .i64 (ordI vr n))) (x_assign rfl) ?_)
  refine wpList_nil ?_
  refine (X_blkN (X_then (hK4_ _ _ ?_)))
  clear hK4_
  refine C_seq (fun K19_ hK19_ => ?_)
  refine C_seq (fun K20_ hK20_ => ?_)
  refine C_reg ?_
  refine S_list (T_val (v := (Value.pointer (some ⟨c, 0, none⟩))) (x_move rfl) ?_)
  refine S_list (T_val (v := (Value.pointer (some ⟨c, 0, none⟩))) (by kernel_rfl) ?_)
  refine S_list (T_val (v := (Value.pointer (some ⟨c, 0, none⟩))) (by kernel_rfl) ?_)
  refine S_list (T_val (v := (Value.int .i32 r)) (x_load1 rfl Try.underlying101 rfl ((Holds.rd H14_ 1 rfl) 0 (Value.int .i32 r) rfl)) ?_)
  refine wpList_nil ?_
  refine (X_then (hK20_ _ _ ?_))
  clear hK20_
  refine C_block ?_
  refine C_seq (fun K21_ hK21_ => ?_)
  refine C_reg ?_
  refine S_list (T_val (v := (Value.bool (decide (r = 0)))) (x_bin rfl rfl rfl) ?_)
  refine S_list (T_val (v := (Value.bool (decide (r = 0)))) (x_assign rfl) ?_)
  refine wpList_nil ?_
  refine (X_then (hK21_ _ _ ?_))
  clear hK21_
  refine C_cond (b := decide (r = 0)) rfl (fun c22_t => ?_) (fun c22_f => ?_)
  · have c22_tp : r = 0 := of_decide_eq_true c22_t
    refine C_seq (fun K23_ hK23_ => ?_)
    refine C_reg ?_
    refine S_list (T_val (v := (Value.int .i64 (ordI vr n))) (x_move rfl) ?_)
    refine S_list (T_val (v := (Value.bool (decide (ordI vr n = 0)))) (x_bin rfl rfl rfl) ?_)
    refine S_list (T_val (v := (Value.bool (decide (ordI vr n = 0)))) (x_assign rfl) ?_)
    refine wpList_nil ?_
    refine (X_then (hK23_ _ _ ?_))
    clear hK23_
    refine C_ret (X_blkR (X_thenR ?_))
    refine R_any (v := (Value.bool (decide (ordI vr n = 0)))) (run_results1 rfl rfl) ?_
    have H24_ : Holds w13_ (ro R :: F) := (Holds.erase (Holds.erase (Holds.erase (Holds.bring H14_ 0 rfl) 1) 1) 1)
    exact ⟨_, [], rfl, ⟨by rw [show r = 0 by omega]; rfl, rfl⟩, S18_, H24_⟩
  · have c22_fp : ¬ (r = 0) := of_decide_eq_false c22_f
    refine C_seq (fun K25_ hK25_ => ?_)
    refine C_reg ?_
    refine S_list (T_val (v := (Value.bool (decide (r = 3)))) (x_bin rfl rfl rfl) ?_)
    refine S_list (T_val (v := (Value.bool (decide (r = 3)))) (x_assign rfl) ?_)
    refine wpList_nil ?_
    refine (X_then (hK25_ _ _ ?_))
    clear hK25_
    refine C_cond (b := decide (r = 3)) rfl (fun c26_t => ?_) (fun c26_f => ?_)
    · have c26_tp : r = 3 := of_decide_eq_true c26_t
      refine C_seq (fun K27_ hK27_ => ?_)
      refine C_reg ?_
      refine S_list (T_val (v := (Value.int .i64 (ordI vr n))) (x_move rfl) ?_)
      refine S_list (T_val (v := (Value.bool (decide (ordI vr n ≠ 0)))) (x_bin rfl rfl rfl) ?_)
      refine S_list (T_val (v := (Value.bool (decide (ordI vr n ≠ 0)))) (x_assign rfl) ?_)
      refine wpList_nil ?_
      refine (X_then (hK27_ _ _ ?_))
      clear hK27_
      refine C_ret (X_blkR (X_thenR ?_))
      refine R_any (v := (Value.bool (decide (ordI vr n ≠ 0)))) (run_results1 rfl rfl) ?_
      have H28_ : Holds w13_ (ro R :: F) := (Holds.erase (Holds.erase (Holds.erase (Holds.bring H14_ 0 rfl) 1) 1) 1)
      exact ⟨_, [], rfl, ⟨by rw [show r = 3 by omega]; rfl, rfl⟩, S18_, H28_⟩
    · have c26_fp : ¬ (r = 3) := of_decide_eq_false c26_f
      refine C_seq (fun K29_ hK29_ => ?_)
      refine C_reg ?_
      refine S_list (T_val (v := (Value.bool (decide (r = 1)))) (x_bin rfl rfl rfl) ?_)
      refine S_list (T_val (v := (Value.bool (decide (r = 1)))) (x_assign rfl) ?_)
      refine wpList_nil ?_
      refine (X_then (hK29_ _ _ ?_))
      clear hK29_
      refine C_cond (b := decide (r = 1)) rfl (fun c30_t => ?_) (fun c30_f => ?_)
      · have c30_tp : r = 1 := of_decide_eq_true c30_t
        refine C_seq (fun K31_ hK31_ => ?_)
        refine C_reg ?_
        refine S_list (T_val (v := (Value.int .i64 (ordI vr n))) (x_move rfl) ?_)
        refine S_list (T_val (v := (Value.bool (decide (0 < ordI vr n)))) (x_bin rfl rfl rfl) ?_)
        refine S_list (T_val (v := (Value.bool (decide (0 < ordI vr n)))) (x_assign rfl) ?_)
        refine wpList_nil ?_
        refine (X_then (hK31_ _ _ ?_))
        clear hK31_
        refine C_ret (X_blkR (X_thenR ?_))
        refine R_any (v := (Value.bool (decide (0 < ordI vr n)))) (run_results1 rfl rfl) ?_
        have H32_ : Holds w13_ (ro R :: F) := (Holds.erase (Holds.erase (Holds.erase (Holds.bring H14_ 0 rfl) 1) 1) 1)
        exact ⟨_, [], rfl, ⟨by rw [show r = 1 by omega]; rfl, rfl⟩, S18_, H32_⟩
      · have c30_fp : ¬ (r = 1) := of_decide_eq_false c30_f
        refine C_seq (fun K33_ hK33_ => ?_)
        refine C_reg ?_
        refine S_list (T_val (v := (Value.bool (decide (r = 2)))) (x_bin rfl rfl rfl) ?_)
        refine S_list (T_val (v := (Value.bool (decide (r = 2)))) (x_assign rfl) ?_)
        refine wpList_nil ?_
        refine (X_then (hK33_ _ _ ?_))
        clear hK33_
        refine C_cond (b := decide (r = 2)) rfl (fun c34_t => ?_) (fun c34_f => ?_)
        · have c34_tp : r = 2 := of_decide_eq_true c34_t
          refine C_seq (fun K35_ hK35_ => ?_)
          refine C_reg ?_
          refine S_list (T_val (v := (Value.int .i64 (ordI vr n))) (x_move rfl) ?_)
          refine S_list (T_val (v := (Value.bool (decide (ordI vr n < 0)))) (x_bin rfl rfl rfl) ?_)
          refine S_list (T_val (v := (Value.bool (decide (ordI vr n < 0)))) (x_assign rfl) ?_)
          refine wpList_nil ?_
          refine (X_then (hK35_ _ _ ?_))
          clear hK35_
          refine C_ret (X_blkR (X_thenR ?_))
          refine R_any (v := (Value.bool (decide (ordI vr n < 0)))) (run_results1 rfl rfl) ?_
          have H36_ : Holds w13_ (ro R :: F) := (Holds.erase (Holds.erase (Holds.erase (Holds.bring H14_ 0 rfl) 1) 1) 1)
          exact ⟨_, [], rfl, ⟨by rw [show r = 2 by omega]; rfl, rfl⟩, S18_, H36_⟩
        · have c34_fp : ¬ (r = 2) := of_decide_eq_false c34_f
          omega

set_option maxHeartbeats 400000 in
theorem kvCmp1t (R : HP) (c kk u : Nat) (r : Int) (K E KK XV VV : Value) (cr md vr ls n : Int) (x val : ByteArray) (h0 : 0 ≤ r) (h1 : r ≤ 3) :
    Tri Try.prog 60 #[(Value.pointer (some ⟨c, 0, none⟩)), (Value.pointer (some ⟨kk, 0, none⟩))] R [cl c 106 [(Value.int .i32 r), (Value.int .i32 1), K, (Value.nilIface), E], cl kk 123 [KK, (Value.int .i64 cr), (Value.int .i64 md), (Value.int .i64 vr), XV, (Value.int .i64 ls)]] (fun v post => v = .bool (resOk r (ordI cr 0)) ∧ post = []) := by
  refine Tri.into (n := 152) (al := [(Value.pointer (some ⟨c, 0, none⟩)), (Value.pointer (some ⟨kk, 0, none⟩))]) Try.func60 rfl Try.ntmps60 rfl rfl fun w F H => ?_
  replace H : Holds w (ro R :: cl c 106 [(Value.int .i32 r), (Value.int .i32 1), K, (Value.nilIface), E] :: cl kk 123 [KK, (Value.int .i64 cr), (Value.int .i64 md), (Value.int .i64 vr), XV, (Value.int .i64 ls)] :: F) := H
  refine C_seq (fun K1_ hK1_ => ?_)
  refine C_reg ?_
  refine S_list (T_val (v := (Value.bool false)) (x_assign rfl) ?_)
  refine wpList_nil ?_
  refine (X_then (hK1_ _ _ ?_))
  clear hK1_
  refine C_seq (fun K2_ hK2_ => ?_)
  refine C_reg ?_
  refine S_list (T_val (v := (Value.int .i64 0)) (x_assign rfl) ?_)
  refine wpList_nil ?_
  refine (X_then (hK2_ _ _ ?_))
  clear hK2_
  refine C_seq (fun K3_ hK3_ => ?_)
  refine C_reg ?_
  refine S_list (T_val (v := (Value.int .i64 0)) (x_assign rfl) ?_)
  refine wpList_nil ?_
  refine (X_then (hK3_ _ _ ?_))
  clear hK3_
  refine C_seq (fun K4_ hK4_ => ?_)
  refine C_seq (fun K5_ hK5_ => ?_)
  refine C_reg ?_
  refine S_list (T_val (v := (Value.pointer (some ⟨c, 0, none⟩))) (x_move rfl) ?_)
  refine S_list (T_val (v := (Value.pointer (some ⟨c, 0, none⟩))) (by kernel_rfl) ?_)
  refine S_list (T_val (v := (Value.pointer (some ⟨c, 1, none⟩))) (by kernel_rfl) ?_)
  refine S_list (T_val (v := (Value.int .i32 1)) (x_load1 rfl Try.underlying103 rfl ((Holds.rd H 1 rfl) 1 (Value.int .i32 1) rfl)) ?_)
  refine wpList_nil ?_
  refine (X_then (hK5_ _ _ ?_))
  clear hK5_
  refine C_block ?_
  refine C_seq (fun K6_ hK6_ => ?_)
  refine C_reg ?_
  refine S_list (T_val (v := (Value.bool false)) (x_bin rfl rfl rfl) ?_)
  refine S_list (T_val (v := (Value.bool false)) (x_assign rfl) ?_)
  refine wpList_nil ?_
  refine (X_then (hK6_ _ _ ?_))
  clear hK6_
  refine C_condF rfl ?_
  refine C_seq (fun K7_ hK7_ => ?_)
  refine C_reg ?_
  refine S_list (T_val (v := (Value.bool true)) (x_bin rfl rfl rfl) ?_)
  refine S_list (T_val (v := (Value.bool true)) (x_assign rfl) ?_)
  refine wpList_nil ?_
  refine (X_then (hK7_ _ _ ?_))
  clear hK7_
  refine C_condT rfl ?_
  refine C_seq (fun K8_ hK8_ => ?_)
  refine C_seq (fun K9_ hK9_ => ?_)
  refine C_reg ?_
  refine S_list (T_val (v := (Value.pointer (some ⟨c, 0, none⟩))) (x_move rfl) ?_)
  refine S_list (T_val (v := (Value.pointer (some ⟨c, 0, none⟩))) (by kernel_rfl) ?_)
  refine S_list (T_val (v := (Value.pointer (some ⟨c, 3, none⟩))) (by kernel_rfl) ?_)
  refine S_list (T_val (v := (Value.nilIface)) (x_load1 rfl Try.underlying20 rfl ((Holds.rd H 1 rfl) 3 (Value.nilIface) rfl)) ?_)
  refine S_list (T_val (v := (Value.tuple #[(Value.pointer none), (Value.bool false)])) (by kernel_rfl) ?_)
  refine S_list (T_val (v := (Value.tuple #[(Value.pointer none), (Value.bool false)])) (x_move rfl) ?_)
  refine S_list (T_val (v := (Value.pointer none)) (by kernel_rfl) ?_)
  refine S_list (T_val (v := (Value.bool false)) (by kernel_rfl) ?_)
  refine S_list (T_val (v := (Value.pointer none)) (x_assign rfl) ?_)
  refine S_list (T_val (v := (Value.bool false)) (x_assign rfl) ?_)
  refine wpList_nil ?_
  refine (X_then (hK9_ _ _ ?_))
  clear hK9_
  refine C_seq (fun K10_ hK10_ => ?_)
  refine C_reg ?_
  refine S_list (T_val (v := (Value.pointer none)) (x_move rfl) ?_)
  refine S_list (T_val (v := (Value.bool false)) (by kernel_rfl) ?_)
  refine wpList_nil ?_
  refine (X_then (hK10_ _ _ ?_))
  clear hK10_
  refine C_condF rfl ?_
  refine C_skip (X_then (hK8_ _ _ ?_))
  clear hK8_
  refine C_reg ?_
  refine S_list (T_val (v := (Value.pointer (some ⟨kk, 0, none⟩))) (x_move rfl) ?_)
  refine S_list (T_val (v := (Value.pointer (some ⟨kk, 0, none⟩))) (by kernel_rfl) ?_)
  refine S_list (T_val (v := (Value.pointer (some ⟨kk, 1, none⟩))) (by kernel_rfl) ?_)
  refine S_list (T_val (v := (Value.int .i64 cr)) (x_load1 rfl Try.underlying2 rfl ((Holds.rd H 2 rfl) 1 (Value.int .i64 cr) rfl)) ?_)
  refine S_list (T_val (v := (Value.int .i64 0)) (x_move rfl) ?_)
  refine S_list (T_call (al := [(Value.int .i64 cr), (Value.int .i64 0)]) (pre := []) (F := cl c 106 [(Value.int .i32 r), (Value.int .i32 1), K, (Value.nilIface), E] :: cl kk 123 [KK, (Value.int .i64 cr), (Value.int .i64 md), (Value.int .i64 vr), XV, (Value.int .i64 ls)] :: F) rfl rfl cb72 (cmpI64 R cr 0) H ?_)
  rintro v14_ p15_ w11_ ⟨rfl, rfl⟩ S13_ H12_
  replace H12_ : Holds w11_ (ro R :: cl c 106 [(Value.int .i32 r), (Value.int .i32 1), K, (Value.nilIface), E] :: cl kk 123 [KK, (Value.int .i64 cr), (Value.int .i64 md), (Value.int .i64 vr), XV, (Value.int .i64 ls)] :: F) := H12_
  have S16_ := Same.trans (Same.refl w) S13_
  refine S_list (T_val (v := (Value.int .i64 (ordI cr 0))) (x_assign rfl) ?_)
  refine wpList_nil ?_
  refine (X_blkN (X_then (hK4_ _ _ ?_)))
  clear hK4_
  refine C_seq (fun K17_ hK17_ => ?_)
  refine C_seq (fun K18_ hK18_ => ?_)
  refine C_reg ?_
  refine S_list (T_val (v := (Value.pointer (some ⟨c, 0, none⟩))) (x_move rfl) ?_)
  refine S_list (T_val (v := (Value.pointer (some ⟨c, 0, none⟩))) (by kernel_rfl) ?_)
  refine S_list (T_val (v := (Value.pointer (some ⟨c, 0, none⟩))) (by kernel_rfl) ?_)
  refine S_list (T_val (v := (Value.int .i32 r)) (x_load1 rfl Try.underlying101 rfl ((Holds.rd H12_ 1 rfl) 0 (Value.int .i32 r) rfl)) ?_)
  refine wpList_nil ?_
  refine (X_then (hK18_ _ _ ?_))
  clear hK18_
  refine C_block ?_
  refine C_seq (fun K19_ hK19_ => ?_)
  refine C_reg ?_
  refine S_list (T_val (v := (Value.bool (decide (r = 0)))) (x_bin rfl rfl rfl) ?_)
  refine S_list (T_val (v := (Value.bool (decide (r = 0)))) (x_assign rfl) ?_)
  refine wpList_nil ?_
  refine (X_then (hK19_ _ _ ?_))
  clear hK19_
  refine C_cond (b := decide (r = 0)) rfl (fun c20_t => ?_) (fun c20_f => ?_)
  · have c20_tp : r = 0 := of_decide_eq_true c20_t
    refine C_seq (fun K21_ hK21_ => ?_)
    refine C_reg ?_
    refine S_list (T_val (v := (Value.int .i64 (ordI cr 0))) (x_move rfl) ?_)
    refine S_list (T_val (v := (Value.bool (decide (ordI cr 0 = 0)))) (x_bin rfl rfl rfl) ?_)
    refine S_list (T_val (v := (Value.bool (decide (ordI cr 0 = 0)))) (x_assign rfl) ?_)
    refine wpList_nil ?_
    refine (X_then (hK21_ _ _ ?_))
    clear hK21_
    refine C_ret (X_blkR (X_thenR ?_))
    refine R_any (v := (Value.bool (decide (ordI cr 0 = 0)))) (run_results1 rfl rfl) ?_
    have H22_ : Holds w11_ (ro R :: F) := (Holds.erase (Holds.erase (Holds.bring H12_ 0 rfl) 1) 1)
    exact ⟨_, [], rfl, ⟨by rw [show r = 0 by omega]; rfl, rfl⟩, S16_, H22_⟩
  · have c20_fp : ¬ (r = 0) := of_decide_eq_false c20_f
    refine C_seq (fun K23_ hK23_ => ?_)
    refine C_reg ?_
    refine S_list (T_val (v := (Value.bool (decide (r = 3)))) (x_bin rfl rfl rfl) ?_)
    refine S_list (T_val (v := (Value.bool (decide (r = 3)))) (x_assign rfl) ?_)
    refine wpList_nil ?_
    refine (X_then (hK23_ _ _ ?_))
    clear hK23_
    refine C_cond (b := decide (r = 3)) rfl (fun c24_t => ?_) (fun c24_f => ?_)
    · have c24_tp : r = 3 := of_decide_eq_true c24_t
      refine C_seq (fun K25_ hK25_ => ?_)
      refine C_reg ?_
      refine S_list (T_val (v := (Value.int .i64 (ordI cr 0))) (x_move rfl) ?_)
      refine S_list (T_val (v := (Value.bool (decide (ordI cr 0 ≠ 0)))) (x_bin rfl rfl rfl) ?_)
      refine S_list (T_val (v := (Value.bool (decide (ordI cr 0 ≠ 0)))) (x_assign rfl) ?_)
      refine wpList_nil ?_
      refine (X_then (hK25_ _ _ ?_))
      clear hK25_
      refine C_ret (X_blkR (X_thenR ?_))
      refine R_any (v := (Value.bool (decide (ordI cr 0 ≠ 0)))) (run_results1 rfl rfl) ?_
      have H26_ : Holds w11_ (ro R :: F) := (Holds.erase (Holds.erase (Holds.bring H12_ 0 rfl) 1) 1)
      exact ⟨_, [], rfl, ⟨by rw [show r = 3 by omega]; rfl, rfl⟩, S16_, H26_⟩
    · have c24_fp : ¬ (r = 3) := of_decide_eq_false c24_f
      refine C_seq (fun K27_ hK27_ => ?_)
      refine C_reg ?_
      refine S_list (T_val (v := (Value.bool (decide (r = 1)))) (x_bin rfl rfl rfl) ?_)
      refine S_list (T_val (v := (Value.bool (decide (r = 1)))) (x_assign rfl) ?_)
      refine wpList_nil ?_
      refine (X_then (hK27_ _ _ ?_))
      clear hK27_
      refine C_cond (b := decide (r = 1)) rfl (fun c28_t => ?_) (fun c28_f => ?_)
      · have c28_tp : r = 1 := of_decide_eq_true c28_t
        refine C_seq (fun K29_ hK29_ => ?_)
        refine C_reg ?_
        refine S_list (T_val (v := (Value.int .i64 (ordI cr 0))) (x_move rfl) ?_)
        refine S_list (T_val (v := (Value.bool (decide (0 < ordI cr 0)))) (x_bin rfl rfl rfl) ?_)
        refine S_list (T_val (v := (Value.bool (decide (0 < ordI cr 0)))) (x_assign rfl) ?_)
        refine wpList_nil ?_
        refine (X_then (hK29_ _ _ ?_))
        clear hK29_
        refine C_ret (X_blkR (X_thenR ?_))
        refine R_any (v := (Value.bool (decide (0 < ordI cr 0)))) (run_results1 rfl rfl) ?_
        have H30_ : Holds w11_ (ro R :: F) := (Holds.erase (Holds.erase (Holds.bring H12_ 0 rfl) 1) 1)
        exact ⟨_, [], rfl, ⟨by rw [show r = 1 by omega]; rfl, rfl⟩, S16_, H30_⟩
      · have c28_fp : ¬ (r = 1) := of_decide_eq_false c28_f
        refine C_seq (fun K31_ hK31_ => ?_)
        refine C_reg ?_
        refine S_list (T_val (v := (Value.bool (decide (r = 2)))) (x_bin rfl rfl rfl) ?_)
        refine S_list (T_val (v := (Value.bool (decide (r = 2)))) (x_assign rfl) ?_)
        refine wpList_nil ?_
        refine (X_then (hK31_ _ _ ?_))
        clear hK31_
        refine C_cond (b := decide (r = 2)) rfl (fun c32_t => ?_) (fun c32_f => ?_)
        · have c32_tp : r = 2 := of_decide_eq_true c32_t
          refine C_seq (fun K33_ hK33_ => ?_)
          refine C_reg ?_
          refine S_list (T_val (v := (Value.int .i64 (ordI cr 0))) (x_move rfl) ?_)
          refine S_list (T_val (v := (Value.bool (decide (ordI cr 0 < 0)))) (x_bin rfl rfl rfl) ?_)
          refine S_list (T_val (v := (Value.bool (decide (ordI cr 0 < 0)))) (x_assign rfl) ?_)
          refine wpList_nil ?_
          refine (X_then (hK33_ _ _ ?_))
          clear hK33_
          refine C_ret (X_blkR (X_thenR ?_))
          refine R_any (v := (Value.bool (decide (ordI cr 0 < 0)))) (run_results1 rfl rfl) ?_
          have H34_ : Holds w11_ (ro R :: F) := (Holds.erase (Holds.erase (Holds.bring H12_ 0 rfl) 1) 1)
          exact ⟨_, [], rfl, ⟨by rw [show r = 2 by omega]; rfl, rfl⟩, S16_, H34_⟩
        · have c32_fp : ¬ (r = 2) := of_decide_eq_false c32_f
          omega

set_option maxHeartbeats 400000 in
theorem kvCmp1f (R : HP) (c kk u : Nat) (r : Int) (K E KK XV VV : Value) (cr md vr ls n : Int) (x val : ByteArray) (h0 : 0 ≤ r) (h1 : r ≤ 3) :
    Tri Try.prog 60 #[(Value.pointer (some ⟨c, 0, none⟩)), (Value.pointer (some ⟨kk, 0, none⟩))] R [cl c 106 [(Value.int .i32 r), (Value.int .i32 1), K, (Value.iface 110 (Value.pointer (some ⟨u, 0, none⟩))), E], cl kk 123 [KK, (Value.int .i64 cr), (Value.int .i64 md), (Value.int .i64 vr), XV, (Value.int .i64 ls)], cl u 112 [(Value.int .i64 n)]] (fun v post => v = .bool (resOk r (ordI cr n)) ∧ post = []) := by
  refine Tri.into (n := 152) (al := [(Value.pointer (some ⟨c, 0, none⟩)), (Value.pointer (some ⟨kk, 0, none⟩))]) Try.func60 rfl Try.ntmps60 rfl rfl fun w F H => ?_
  replace H : Holds w (ro R :: cl c 106 [(Value.int .i32 r), (Value.int .i32 1), K, (Value.iface 110 (Value.pointer (some ⟨u, 0, none⟩))), E] :: cl kk 123 [KK, (Value.int .i64 cr), (Value.int .i64 md), (Value.int .i64 vr), XV, (Value.int .i64 ls)] :: cl u 112 [(Value.int .i64 n)] :: F) := H
  refine C_seq (fun K1_ hK1_ => ?_)
  refine C_reg ?_
  refine S_list (T_val (v := (Value.bool false)) (x_assign rfl) ?_)
  refine wpList_nil ?_
  refine (X_then (hK1_ _ _ ?_))
  clear hK1_
  refine C_seq (fun K2_ hK2_ => ?_)
  refine C_reg ?_
  refine S_list (T_val (v := (Value.int .i64 0)) (x_assign rfl) ?_)
  refine wpList_nil ?_
  refine (X_then (hK2_ _ _ ?_))
  clear hK2_
  refine C_seq (fun K3_ hK3_ => ?_)
  refine C_reg ?_
  refine S_list (T_val (v := (Value.int .i64 0)) (x_assign rfl) ?_)
  refine wpList_nil ?_
  refine (X_then (hK3_ _ _ ?_))
  clear hK3_
  refine C_seq (fun K4_ hK4_ => ?_)
  refine C_seq (fun K5_ hK5_ => ?_)
  refine C_reg ?_
  refine S_list (T_val (v := (Value.pointer (some ⟨c, 0, none⟩))) (x_move rfl) ?_)
  refine S_list (T_val (v := (Value.pointer (some ⟨c, 0, none⟩))) (by kernel_rfl) ?_)
  refine S_list (T_val (v := (Value.pointer (some ⟨c, 1, none⟩))) (by kernel_rfl) ?_)
  refine S_list (T_val (v := (Value.int .i32 1)) (x_load1 rfl Try.underlying103 rfl ((Holds.rd H 1 rfl) 1 (Value.int .i32 1) rfl)) ?_)
  refine wpList_nil ?_
  refine (X_then (hK5_ _ _ ?_))
  clear hK5_
  refine C_block ?_
  refine C_seq (fun K6_ hK6_ => ?_)
  refine C_reg ?_
  refine S_list (T_val (v := (Value.bool false)) (x_bin rfl rfl rfl) ?_)
  refine S_list (T_val (v := (Value.bool false)) (x_assign rfl) ?_)
  refine wpList_nil ?_
  refine (X_then (hK6_ _ _ ?_))
  clear hK6_
  refine C_condF rfl ?_
  refine C_seq (fun K7_ hK7_ => ?_)
  refine C_reg ?_
  refine S_list (T_val (v := (Value.bool true)) (x_bin rfl rfl rfl) ?_)
  refine S_list (T_val (v := (Value.bool true)) (x_assign rfl) ?_)
  refine wpList_nil ?_
  refine (X_then (hK7_ _ _ ?_))
  clear hK7_
  refine C_condT rfl ?_
  refine C_seq (fun K8_ hK8_ => ?_)
  refine C_seq (fun K9_ hK9_ => ?_)
  refine C_reg ?_
  refine S_list (T_val (v := (Value.pointer (some ⟨c, 0, none⟩))) (x_move rfl) ?_)
  refine S_list (T_val (v := (Value.pointer (some ⟨c, 0, none⟩))) (by kernel_rfl) ?_)
  refine S_list (T_val (v := (Value.pointer (some ⟨c, 3, none⟩))) (by kernel_rfl) ?_)
  refine S_list (T_val (v := (Value.iface 110 (Value.pointer (some ⟨u, 0, none⟩)))) (x_load1 rfl Try.underlying20 rfl ((Holds.rd H 1 rfl) 3 (Value.iface 110 (Value.pointer (some ⟨u, 0, none⟩))) rfl)) ?_)
  refine S_list (T_val (v := (Value.tuple #[(Value.pointer (some ⟨u, 0, none⟩)), (Value.bool true)])) (by kernel_rfl) ?_)
  refine S_list (T_val (v := (Value.tuple #[(Value.pointer (some ⟨u, 0, none⟩)), (Value.bool true)])) (x_move rfl) ?_)
  refine S_list (T_val (v := (Value.pointer (some ⟨u, 0, none⟩))) (by kernel_rfl) ?_)
  refine S_list (T_val (v := (Value.bool true)) (by kernel_rfl) ?_)
  refine S_list (T_val (v := (Value.pointer (some ⟨u, 0, none⟩))) (x_assign rfl) ?_)
  refine S_list (T_val (v := (Value.bool true)) (x_assign rfl) ?_)
  refine wpList_nil ?_
  refine (X_then (hK9_ _ _ ?_))
  clear hK9_
  refine C_seq (fun K10_ hK10_ => ?_)
  refine C_reg ?_
  refine S_list (T_val (v := (Value.pointer (some ⟨u, 0, none⟩))) (x_move rfl) ?_)
  refine S_list (T_val (v := (Value.bool true)) (by kernel_rfl) ?_)
  refine wpList_nil ?_
  refine (X_then (hK10_ _ _ ?_))
  clear hK10_
  refine C_condT rfl ?_
  refine C_reg ?_
  refine S_list (T_val (v := (Value.pointer (some ⟨u, 0, none⟩))) (x_move rfl) ?_)
  refine S_list (T_val (v := (Value.pointer (some ⟨u, 0, none⟩))) (by kernel_rfl) ?_)
  refine S_list (T_val (v := (Value.pointer (some ⟨u, 0, none⟩))) (by kernel_rfl) ?_)
  refine S_list (T_val (v := (Value.int .i64 n)) (x_load1 rfl Try.underlying2 rfl ((Holds.rd H 3 rfl) 0 (Value.int .i64 n) rfl)) ?_)
  refine S_list (T_val (v := (Value.int .i64 n)) (x_assign rfl) ?_)
  refine wpList_nil ?_
  refine (X_then (hK8_ _ _ ?_))
  clear hK8_
  refine C_reg ?_
  refine S_list (T_val (v := (Value.pointer (some ⟨kk, 0, none⟩))) (x_move rfl) ?_)
  refine S_list (T_val (v := (Value.pointer (some ⟨kk, 0, none⟩))) (by kernel_rfl) ?_)
  refine S_list (T_val (v := (Value.pointer (some ⟨kk, 1, none⟩))) (by kernel_rfl) ?_)
  refine S_list (T_val (v := (Value.int .i64 cr)) (x_load1 rfl Try.underlying2 rfl ((Holds.rd H 2 rfl) 1 (Value.int .i64 cr) rfl)) ?_)
  refine S_list (T_val (v := (Value.int .i64 n)) (x_move rfl) ?_)
  refine S_list (T_call (al := [(Value.int .i64 cr), (Value.int .i64 n)]) (pre := []) (F := cl c 106 [(Value.int .i32 r), (Value.int .i32 1), K, (Value.iface 110 (Value.pointer (some ⟨u, 0, none⟩))), E] :: cl kk 123 [KK, (Value.int .i64 cr), (Value.int .i64 md), (Value.int .i64 vr), XV, (Value.int .i64 ls)] :: cl u 112 [(Value.int .i64 n)] :: F) rfl rfl cb72 (cmpI64 R cr n) H ?_)
  rintro v14_ p15_ w11_ ⟨rfl, rfl⟩ S13_ H12_
  replace H12_ : Holds w11_ (ro R :: cl c 106 [(Value.int .i32 r), (Value.int .i32 1), K, (Value.iface 110 (Value.pointer (some ⟨u, 0, none⟩))), E] :: cl kk 123 [KK, (Value.int .i64 cr), (Value.int .i64 md), (Value.int .i64 vr), XV, (Value.int .i64 ls)] :: cl u 112 [(Value.int .i64 n)] :: F) := H12_
  have S16_ := Same.trans (Same.refl w) S13_
  refine S_list (T_val (v := (Value.int .i64 (ordI cr n))) (x_assign rfl) ?_)
  refine wpList_nil ?_
  refine (X_blkN (X_then (hK4_ _ _ ?_)))
  clear hK4_
  refine C_seq (fun K17_ hK17_ => ?_)
  refine C_seq (fun K18_ hK18_ => ?_)
  refine C_reg ?_
  refine S_list (T_val (v := (Value.pointer (some ⟨c, 0, none⟩))) (x_move rfl) ?_)
  refine S_list (T_val (v := (Value.pointer (some ⟨c, 0, none⟩))) (by kernel_rfl) ?_)
  refine S_list (T_val (v := (Value.pointer (some ⟨c, 0, none⟩))) (by kernel_rfl) ?_)
  refine S_list (T_val (v := (Value.int .i32 r)) (x_load1 rfl Try.underlying101 rfl ((Holds.rd H12_ 1 rfl) 0 (Value.int .i32 r) rfl)) ?_)
  refine wpList_nil ?_
  refine (X_then (hK18_ _ _ ?_))
  clear hK18_
  refine C_block ?_
  refine C_seq (fun K19_ hK19_ => ?_)
  refine C_reg ?_
  refine S_list (T_val (v := (Value.bool (decide (r = 0)))) (x_bin rfl rfl rfl) ?_)
  refine S_list (T_val (v := (Value.bool (decide (r = 0)))) (x_assign rfl) ?_)
  refine wpList_nil ?_
  refine (X_then (hK19_ _ _ ?_))
  clear hK19_
  refine C_cond (b := decide (r = 0)) rfl (fun c20_t => ?_) (fun c20_f => ?_)
  · have c20_tp : r = 0 := of_decide_eq_true c20_t
    refine C_seq (fun K21_ hK21_ => ?_)
    refine C_reg ?_
    refine S_list (T_val (v := (Value.int .i64 (ordI cr n))) (x_move rfl) ?_)
    refine S_list (T_val (v := (Value.bool (decide (ordI cr n = 0)))) (x_bin rfl rfl rfl) ?_)
    refine S_list (T_val (v := (Value.bool (decide (ordI cr n = 0)))) (x_assign rfl) ?_)
    refine wpList_nil ?_
    refine (X_then (hK21_ _ _ ?_))
    clear hK21_
    refine C_ret (X_blkR (X_thenR ?_))
    refine R_any (v := (Value.bool (decide (ordI cr n = 0)))) (run_results1 rfl rfl) ?_
    have H22_ : Holds w11_ (ro R :: F) := (Holds.erase (Holds.erase (Holds.erase (Holds.bring H12_ 0 rfl) 1) 1) 1)
    exact ⟨_, [], rfl, ⟨by rw [show r = 0 by omega]; rfl, rfl⟩, S16_, H22_⟩
  · have c20_fp : ¬ (r = 0) := of_decide_eq_false c20_f
    refine C_seq (fun K23_ hK23_ => ?_)
    refine C_reg ?_
    refine S_list (T_val (v := (Value.bool (decide (r = 3)))) (x_bin rfl rfl rfl) ?_)
    refine S_list (T_val (v := (Value.bool (decide (r = 3)))) (x_assign rfl) ?_)
    refine wpList_nil ?_
    refine (X_then (hK23_ _ _ ?_))
    clear hK23_
    refine C_cond (b := decide (r = 3)) rfl (fun c24_t => ?_) (fun c24_f => ?_)
    · have c24_tp : r = 3 := of_decide_eq_true c24_t
      refine C_seq (fun K25_ hK25_ => ?_)
      refine C_reg ?_
      refine S_list (T_val (v := (Value.int .i64 (ordI cr n))) (x_move rfl) ?_)
      refine S_list (T_val (v := (Value.bool (decide (ordI cr n ≠ 0)))) (x_bin rfl rfl rfl) ?_)
      refine S_list (T_val (v := (Value.bool (decide (ordI cr n ≠ 0)))) (x_assign rfl) ?_)
      refine wpList_nil ?_
      refine (X_then (hK25_ _ _ ?_))
      clear hK25_
      refine C_ret (X_blkR (X_thenR ?_))
      refine R_any (v := (Value.bool (decide (ordI cr n ≠ 0)))) (run_results1 rfl rfl) ?_
      have H26_ : Holds w11_ (ro R :: F) := (Holds.erase (Holds.erase (Holds.erase (Holds.bring H12_ 0 rfl) 1) 1) 1)
      exact ⟨_, [], rfl, ⟨by rw [show r = 3 by omega]; rfl, rfl⟩, S16_, H26_⟩
    · have c24_fp : ¬ (r = 3) := of_decide_eq_false c24_f
      refine C_seq (fun K27_ hK27_ => ?_)
      refine C_reg ?_
      refine S_list (T_val (v := (Value.bool (decide (r = 1)))) (x_bin rfl rfl rfl) ?_)
      refine S_list (T_val (v := (Value.bool (decide (r = 1)))) (x_assign rfl) ?_)
      refine wpList_nil ?_
      refine (X_then (hK27_ _ _ ?_))
      clear hK27_
      refine C_cond (b := decide (r = 1)) rfl (fun c28_t => ?_) (fun c28_f => ?_)
      · have c28_tp : r = 1 := of_decide_eq_true c28_t
        refine C_seq (fun K29_ hK29_ => ?_)
        refine C_reg ?_
        refine S_list (T_val (v := (Value.int .i64 (ordI cr n))) (x_move rfl) ?_)
        refine S_list (T_val (v := (Value.bool (decide (0 < ordI cr n)))) (x_bin rfl rfl rfl) ?_)
        refine S_list (T_val (v := (Value.bool (decide (0 < ordI cr n)))) (x_assign rfl) ?_)
        refine wpList_nil ?_
        refine (X_then (hK29_ _ _ ?_))
        clear hK29_
        refine C_ret (X_blkR (X_thenR ?_))
        refine R_any (v := (Value.bool (decide (0 < ordI cr n)))) (run_results1 rfl rfl) ?_
        have H30_ : Holds w11_ (ro R :: F) := (Holds.erase (Holds.erase (Holds.erase (Holds.bring H12_ 0 rfl) 1) 1) 1)
        exact ⟨_, [], rfl, ⟨by rw [show r = 1 by omega]; rfl, rfl⟩, S16_, H30_⟩
      · have c28_fp : ¬ (r = 1) := of_decide_eq_false c28_f
        refine C_seq (fun K31_ hK31_ => ?_)
        refine C_reg ?_
        refine S_list (T_val (v := (Value.bool (decide (r = 2)))) (x_bin rfl rfl rfl) ?_)
        refine S_list (T_val (v := (Value.bool (decide (r = 2)))) (x_assign rfl) ?_)
        refine wpList_nil ?_
        refine (X_then (hK31_ _ _ ?_))
        clear hK31_
        refine C_cond (b := decide (r = 2)) rfl (fun c32_t => ?_) (fun c32_f => ?_)
        · have c32_tp : r = 2 := of_decide_eq_true c32_t
          refine C_seq (fun K33_ hK33_ => ?_)
          refine C_reg ?_
          refine S_list (T_val (v := (Value.int .i64 (ordI cr n))) (x_move rfl) ?_)
          refine S_list (T_val (v := (Value.bool (decide (ordI cr n < 0)))) (x_bin rfl rfl rfl) ?_)
          refine S_list (T_val (v := (Value.bool (decide (ordI cr n < 0)))) (x_assign rfl) ?_)
          refine wpList_nil ?_
          refine (X_then (hK33_ _ _ ?_))
          clear hK33_
          refine C_ret (X_blkR (X_thenR ?_))
          refine R_any (v := (Value.bool (decide (ordI cr n < 0)))) (run_results1 rfl rfl) ?_
          have H34_ : Holds w11_ (ro R :: F) := (Holds.erase (Holds.erase (Holds.erase (Holds.bring H12_ 0 rfl) 1) 1) 1)
          exact ⟨_, [], rfl, ⟨by rw [show r = 2 by omega]; rfl, rfl⟩, S16_, H34_⟩
        · have c32_fp : ¬ (r = 2) := of_decide_eq_false c32_f
          omega

set_option maxHeartbeats 400000 in
theorem kvCmp2t (R : HP) (c kk u : Nat) (r : Int) (K E KK XV VV : Value) (cr md vr ls n : Int) (x val : ByteArray) (h0 : 0 ≤ r) (h1 : r ≤ 3) :
    Tri Try.prog 60 #[(Value.pointer (some ⟨c, 0, none⟩)), (Value.pointer (some ⟨kk, 0, none⟩))] R [cl c 106 [(Value.int .i32 r), (Value.int .i32 2), K, (Value.nilIface), E], cl kk 123 [KK, (Value.int .i64 cr), (Value.int .i64 md), (Value.int .i64 vr), XV, (Value.int .i64 ls)]] (fun v post => v = .bool (resOk r (ordI md 0)) ∧ post = []) := by
  refine Tri.into (n := 152) (al := [(Value.pointer (some ⟨c, 0, none⟩)), (Value.pointer (some ⟨kk, 0, none⟩))]) Try.func60 rfl Try.ntmps60 rfl rfl fun w F H => ?_
  replace H : Holds w (ro R :: cl c 106 [(Value.int .i32 r), (Value.int .i32 2), K, (Value.nilIface), E] :: cl kk 123 [KK, (Value.int .i64 cr), (Value.int .i64 md), (Value.int .i64 vr), XV, (Value.int .i64 ls)] :: F) := H
  refine C_seq (fun K1_ hK1_ => ?_)
  refine C_reg ?_
  refine S_list (T_val (v := (Value.bool false)) (x_assign rfl) ?_)
  refine wpList_nil ?_
  refine (X_then (hK1_ _ _ ?_))
  clear hK1_
  refine C_seq (fun K2_ hK2_ => ?_)
  refine C_reg ?_
  refine S_list (T_val (v := (Value.int .i64 0)) (x_assign rfl) ?_)
  refine wpList_nil ?_
  refine (X_then (hK2_ _ _ ?_))
  clear hK2_
  refine C_seq (fun K3_ hK3_ => ?_)
  refine C_reg ?_
  refine S_list (T_val (v := (Value.int .i64 0)) (x_assign rfl) ?_)
  refine wpList_nil ?_
  refine (X_then (hK3_ _ _ ?_))
  clear hK3_
  refine C_seq (fun K4_ hK4_ => ?_)
  refine C_seq (fun K5_ hK5_ => ?_)
  refine C_reg ?_
  refine S_list (T_val (v := (Value.pointer (some ⟨c, 0, none⟩))) (x_move rfl) ?_)
  refine S_list (T_val (v := (Value.pointer (some ⟨c, 0, none⟩))) (by kernel_rfl) ?_)
  refine S_list (T_val (v := (Value.pointer (some ⟨c, 1, none⟩))) (by kernel_rfl) ?_)
  refine S_list (T_val (v := (Value.int .i32 2)) (x_load1 rfl Try.underlying103 rfl ((Holds.rd H 1 rfl) 1 (Value.int .i32 2) rfl)) ?_)
  refine wpList_nil ?_
  refine (X_then (hK5_ _ _ ?_))
  clear hK5_
  refine C_block ?_
  refine C_seq (fun K6_ hK6_ => ?_)
  refine C_reg ?_
  refine S_list (T_val (v := (Value.bool false)) (x_bin rfl rfl rfl) ?_)
  refine S_list (T_val (v := (Value.bool false)) (x_assign rfl) ?_)
  refine wpList_nil ?_
  refine (X_then (hK6_ _ _ ?_))
  clear hK6_
  refine C_condF rfl ?_
  refine C_seq (fun K7_ hK7_ => ?_)
  refine C_reg ?_
  refine S_list (T_val (v := (Value.bool false)) (x_bin rfl rfl rfl) ?_)
  refine S_list (T_val (v := (Value.bool false)) (x_assign rfl) ?_)
  refine wpList_nil ?_
  refine (X_then (hK7_ _ _ ?_))
  clear hK7_
  refine C_condF rfl ?_
  refine C_seq (fun K8_ hK8_ => ?_)
  refine C_reg ?_
  refine S_list (T_val (v := (Value.bool true)) (x_bin rfl rfl rfl) ?_)
  refine S_list (T_val (v := (Value.bool true)) (x_assign rfl) ?_)
  refine wpList_nil ?_
  refine (X_then (hK8_ _ _ ?_))
  clear hK8_
  refine C_condT rfl ?_
  refine C_seq (fun K9_ hK9_ => ?_)
  refine C_seq (fun K10_ hK10_ => ?_)
  refine C_reg ?_
  refine S_list (T_val (v := (Value.pointer (some ⟨c, 0, none⟩))) (x_move rfl) ?_)
  refine S_list (T_val (v := (Value.pointer (some ⟨c, 0, none⟩))) (by kernel_rfl) ?_)
  refine S_list (T_val (v := (Value.pointer (some ⟨c, 3, none⟩))) (by kernel_rfl) ?_)
  refine S_list (T_val (v := (Value.nilIface)) (x_load1 rfl Try.underlying20 rfl ((Holds.rd H 1 rfl) 3 (Value.nilIface) rfl)) ?_)
  refine S_list (T_val (v := (Value.tuple #[(Value.pointer none), (Value.bool false)])) (by kernel_rfl) ?_)
  refine S_list (T_val (v := (Value.tuple #[(Value.pointer none), (Value.bool false)])) (x_move rfl) ?_)
  refine S_list (T_val (v := (Value.pointer none)) (by kernel_rfl) ?_)
  refine S_list (T_val (v := (Value.bool false)) (by kernel_rfl) ?_)
  refine S_list (T_val (v := (Value.pointer none)) (x_assign rfl) ?_)
  refine S_list (T_val (v := (Value.bool false)) (x_assign rfl) ?_)
  refine wpList_nil ?_
  refine (X_then (hK10_ _ _ ?_))
  clear hK10_
  refine C_seq (fun K11_ hK11_ => ?_)
  refine C_reg ?_
  refine S_list (T_val (v := (Value.pointer none)) (x_move rfl) ?_)
  refine S_list (T_val (v := (Value.bool false)) (by kernel_rfl) ?_)
  refine wpList_nil ?_
  refine (X_then (hK11_ _ _ ?_))
  clear hK11_
  refine C_condF rfl ?_
  refine C_skip (X_then (hK9_ _ _ ?_))
  clear hK9_
  refine C_reg ?_
  refine S_list (T_val (v := (Value.pointer (some ⟨kk, 0, none⟩))) (x_move rfl) ?_)
  refine S_list (T_val (v := (Value.pointer (some ⟨kk, 0, none⟩))) (by kernel_rfl) ?_)
  refine S_list (T_val (v := (Value.pointer (some ⟨kk, 2, none⟩))) (by kernel_rfl) ?_)
  refine S_list (T_val (v := (Value.int .i64 md)) (x_load1 rfl Try.underlying2 rfl ((Holds.rd H 2 rfl) 2 (Value.int .i64 md) rfl)) ?_)
  refine S_list (T_val (v := (Value.int .i64 0)) (x_move rfl) ?_)
  refine S_list (T_call (al := [(Value.int .i64 md), (Value.int .i64 0)]) (pre := []) (F := cl c 106 [(Value.int .i32 r), (Value.int .i32 2), K, (Value.nilIface), E] :: cl kk 123 [KK, (Value.int .i64 cr), (Value.int .i64 md), (Value.int .i64 vr), XV, (Value.int .i64 ls)] :: F) rfl rfl cb72 (cmpI64 R md 0) H ?_)
  rintro v15_ p16_ w12_ ⟨rfl, rfl⟩ S14_ H13_
  replace H13_ : Holds w12_ (ro R :: cl c 106 [(Value.int .i32 r), (Value.int .i32 2), K, (Value.nilIface), E] :: cl kk 123 [KK, (Value.int .i64 cr), (Value.int .i64 md), (Value.int .i64 vr), XV, (Value.int .i64 ls)] :: F) := H13_
  have S17_ := Same.trans (Same.refl w) S14_
  refine S_list (T_val (v := (Value.int .i64 (ordI md 0))) (x_assign rfl) ?_)
  refine wpList_nil ?_
  refine (X_blkN (X_then (hK4_ _ _ ?_)))
  clear hK4_
  refine C_seq (fun K18_ hK18_ => ?_)
  refine C_seq (fun K19_ hK19_ => ?_)
  refine C_reg ?_
  refine S_list (T_val (v := (Value.pointer (some ⟨c, 0, none⟩))) (x_move rfl) ?_)
  refine S_list (T_val (v := (Value.pointer (some ⟨c, 0, none⟩))) (by kernel_rfl) ?_)
  refine S_list (T_val (v := (Value.pointer (some ⟨c, 0, none⟩))) (by kernel_rfl) ?_)
  refine S_list (T_val (v := (Value.int .i32 r)) (x_load1 rfl Try.underlying101 rfl ((Holds.rd H13_ 1 rfl) 0 (Value.int .i32 r) rfl)) ?_)
  refine wpList_nil ?_
  refine (X_then (hK19_ _ _ ?_))
  clear hK19_
  refine C_block ?_
  refine C_seq (fun K20_ hK20_ => ?_)
  refine C_reg ?_
  refine S_list (T_val (v := (Value.bool (decide (r = 0)))) (x_bin rfl rfl rfl) ?_)
  refine S_list (T_val (v := (Value.bool (decide (r = 0)))) (x_assign rfl) ?_)
  refine wpList_nil ?_
  refine (X_then (hK20_ _ _ ?_))
  clear hK20_
  refine C_cond (b := decide (r = 0)) rfl (fun c21_t => ?_) (fun c21_f => ?_)
  · have c21_tp : r = 0 := of_decide_eq_true c21_t
    refine C_seq (fun K22_ hK22_ => ?_)
    refine C_reg ?_
    refine S_list (T_val (v := (Value.int .i64 (ordI md 0))) (x_move rfl) ?_)
    refine S_list (T_val (v := (Value.bool (decide (ordI md 0 = 0)))) (x_bin rfl rfl rfl) ?_)
    refine S_list (T_val (v := (Value.bool (decide (ordI md 0 = 0)))) (x_assign rfl) ?_)
    refine wpList_nil ?_
    refine (X_then (hK22_ _ _ ?_))
    clear hK22_
    refine C_ret (X_blkR (X_thenR ?_))
    refine R_any (v := (Value.bool (decide (ordI md 0 = 0)))) (run_results1 rfl rfl) ?_
    have H23_ : Holds w12_ (ro R :: F) := (Holds.erase (Holds.erase (Holds.bring H13_ 0 rfl) 1) 1)
    exact ⟨_, [], rfl, ⟨by rw [show r = 0 by omega]; rfl, rfl⟩, S17_, H23_⟩
  · have c21_fp : ¬ (r = 0) := of_decide_eq_false c21_f
    refine C_seq (fun K24_ hK24_ => ?_)
    refine C_reg ?_
    refine S_list (T_val (v := (Value.bool (decide (r = 3)))) (x_bin rfl rfl rfl) ?_)
    refine S_list (T_val (v := (Value.bool (decide (r = 3)))) (x_assign rfl) ?_)
    refine wpList_nil ?_
    refine (X_then (hK24_ _ _ ?_))
    clear hK24_
    refine C_cond (b := decide (r = 3)) rfl (fun c25_t => ?_) (fun c25_f => ?_)
    · have c25_tp : r = 3 := of_decide_eq_true c25_t
      refine C_seq (fun K26_ hK26_ => ?_)
      refine C_reg ?_
      refine S_list (T_val (v := (Value.int .i64 (ordI md 0))) (x_move rfl) ?_)
      refine S_list (T_val (v := (Value.bool (decide (ordI md 0 ≠ 0)))) (x_bin rfl rfl rfl) ?_)
      refine S_list (T_val (v := (Value.bool (decide (ordI md 0 ≠ 0)))) (x_assign rfl) ?_)
      refine wpList_nil ?_
      refine (X_then (hK26_ _ _ ?_))
      clear hK26_
      refine C_ret (X_blkR (X_thenR ?_))
      refine R_any (v := (Value.bool (decide (ordI md 0 ≠ 0)))) (run_results1 rfl rfl) ?_
      have H27_ : Holds w12_ (ro R :: F) := (Holds.erase (Holds.erase (Holds.bring H13_ 0 rfl) 1) 1)
      exact ⟨_, [], rfl, ⟨by rw [show r = 3 by omega]; rfl, rfl⟩, S17_, H27_⟩
    · have c25_fp : ¬ (r = 3) := of_decide_eq_false c25_f
      refine C_seq (fun K28_ hK28_ => ?_)
      refine C_reg ?_
      refine S_list (T_val (v := (Value.bool (decide (r = 1)))) (x_bin rfl rfl rfl) ?_)
      refine S_list (T_val (v := (Value.bool (decide (r = 1)))) (x_assign rfl) ?_)
      refine wpList_nil ?_
      refine (X_then (hK28_ _ _ ?_))
      clear hK28_
      refine C_cond (b := decide (r = 1)) rfl (fun c29_t => ?_) (fun c29_f => ?_)
      · have c29_tp : r = 1 := of_decide_eq_true c29_t
        refine C_seq (fun K30_ hK30_ => ?_)
        refine C_reg ?_
        refine S_list (T_val (v := (Value.int .i64 (ordI md 0))) (x_move rfl) ?_)
        refine S_list (T_val (v := (Value.bool (decide (0 < ordI md 0)))) (x_bin rfl rfl rfl) ?_)
        refine S_list (T_val (v := (Value.bool (decide (0 < ordI md 0)))) (x_assign rfl) ?_)
        refine wpList_nil ?_
        refine (X_then (hK30_ _ _ ?_))
        clear hK30_
        refine C_ret (X_blkR (X_thenR ?_))
        refine R_any (v := (Value.bool (decide (0 < ordI md 0)))) (run_results1 rfl rfl) ?_
        have H31_ : Holds w12_ (ro R :: F) := (Holds.erase (Holds.erase (Holds.bring H13_ 0 rfl) 1) 1)
        exact ⟨_, [], rfl, ⟨by rw [show r = 1 by omega]; rfl, rfl⟩, S17_, H31_⟩
      · have c29_fp : ¬ (r = 1) := of_decide_eq_false c29_f
        refine C_seq (fun K32_ hK32_ => ?_)
        refine C_reg ?_
        refine S_list (T_val (v := (Value.bool (decide (r = 2)))) (x_bin rfl rfl rfl) ?_)
        refine S_list (T_val (v := (Value.bool (decide (r = 2)))) (x_assign rfl) ?_)
        refine wpList_nil ?_
        refine (X_then (hK32_ _ _ ?_))
        clear hK32_
        refine C_cond (b := decide (r = 2)) rfl (fun c33_t => ?_) (fun c33_f => ?_)
        · have c33_tp : r = 2 := of_decide_eq_true c33_t
          refine C_seq (fun K34_ hK34_ => ?_)
          refine C_reg ?_
          refine S_list (T_val (v := (Value.int .i64 (ordI md 0))) (x_move rfl) ?_)
          refine S_list (T_val (v := (Value.bool (decide (ordI md 0 < 0)))) (x_bin rfl rfl rfl) ?_)
          refine S_list (T_val (v := (Value.bool (decide (ordI md 0 < 0)))) (x_assign rfl) ?_)
          refine wpList_nil ?_
          refine (X_then (hK34_ _ _ ?_))
          clear hK34_
          refine C_ret (X_blkR (X_thenR ?_))
          refine R_any (v := (Value.bool (decide (ordI md 0 < 0)))) (run_results1 rfl rfl) ?_
          have H35_ : Holds w12_ (ro R :: F) := (Holds.erase (Holds.erase (Holds.bring H13_ 0 rfl) 1) 1)
          exact ⟨_, [], rfl, ⟨by rw [show r = 2 by omega]; rfl, rfl⟩, S17_, H35_⟩
        · have c33_fp : ¬ (r = 2) := of_decide_eq_false c33_f
          omega

set_option maxHeartbeats 400000 in
theorem kvCmp2f (R : HP) (c kk u : Nat) (r : Int) (K E KK XV VV : Value) (cr md vr ls n : Int) (x val : ByteArray) (h0 : 0 ≤ r) (h1 : r ≤ 3) :
    Tri Try.prog 60 #[(Value.pointer (some ⟨c, 0, none⟩)), (Value.pointer (some ⟨kk, 0, none⟩))] R [cl c 106 [(Value.int .i32 r), (Value.int .i32 2), K, (Value.iface 113 (Value.pointer (some ⟨u, 0, none⟩))), E], cl kk 123 [KK, (Value.int .i64 cr), (Value.int .i64 md), (Value.int .i64 vr), XV, (Value.int .i64 ls)], cl u 115 [(Value.int .i64 n)]] (fun v post => v = .bool (resOk r (ordI md n)) ∧ post = []) := by
  refine Tri.into (n := 152) (al := [(Value.pointer (some ⟨c, 0, none⟩)), (Value.pointer (some ⟨kk, 0, none⟩))]) Try.func60 rfl Try.ntmps60 rfl rfl fun w F H => ?_
  replace H : Holds w (ro R :: cl c 106 [(Value.int .i32 r), (Value.int .i32 2), K, (Value.iface 113 (Value.pointer (some ⟨u, 0, none⟩))), E] :: cl kk 123 [KK, (Value.int .i64 cr), (Value.int .i64 md), (Value.int .i64 vr), XV, (Value.int .i64 ls)] :: cl u 115 [(Value.int .i64 n)] :: F) := H
  refine C_seq (fun K1_ hK1_ => ?_)
  refine C_reg ?_
  refine S_list (T_val (v := (Value.bool false)) (x_assign rfl) ?_)
  refine wpList_nil ?_
  refine (X_then (hK1_ _ _ ?_))
  clear hK1_
  refine C_seq (fun K2_ hK2_ => ?_)
  refine C_reg ?_
  refine S_list (T_val (v := (Value.int .i64 0)) (x_assign rfl) ?_)
  refine wpList_nil ?_
  refine (X_then (hK2_ _ _ ?_))
  clear hK2_
  refine C_seq (fun K3_ hK3_ => ?_)
  refine C_reg ?_
  refine S_list (T_val (v := (Value.int .i64 0)) (x_assign rfl) ?_)
  refine wpList_nil ?_
  refine (X_then (hK3_ _ _ ?_))
  clear hK3_
  refine C_seq (fun K4_ hK4_ => ?_)
  refine C_seq (fun K5_ hK5_ => ?_)
  refine C_reg ?_
  refine S_list (T_val (v := (Value.pointer (some ⟨c, 0, none⟩))) (x_move rfl) ?_)
  refine S_list (T_val (v := (Value.pointer (some ⟨c, 0, none⟩))) (by kernel_rfl) ?_)
  refine S_list (T_val (v := (Value.pointer (some ⟨c, 1, none⟩))) (by kernel_rfl) ?_)
  refine S_list (T_val (v := (Value.int .i32 2)) (x_load1 rfl Try.underlying103 rfl ((Holds.rd H 1 rfl) 1 (Value.int .i32 2) rfl)) ?_)
  refine wpList_nil ?_
  refine (X_then (hK5_ _ _ ?_))
  clear hK5_
  refine C_block ?_
  refine C_seq (fun K6_ hK6_ => ?_)
  refine C_reg ?_
  refine S_list (T_val (v := (Value.bool false)) (x_bin rfl rfl rfl) ?_)
  refine S_list (T_val (v := (Value.bool false)) (x_assign rfl) ?_)
  refine wpList_nil ?_
  refine (X_then (hK6_ _ _ ?_))
  clear hK6_
  refine C_condF rfl ?_
  refine C_seq (fun K7_ hK7_ => ?_)
  refine C_reg ?_
  refine S_list (T_val (v := (Value.bool false)) (x_bin rfl rfl rfl) ?_)
  refine S_list (T_val (v := (Value.bool false)) (x_assign rfl) ?_)
  refine wpList_nil ?_
  refine (X_then (hK7_ _ _ ?_))
  clear hK7_
  refine C_condF rfl ?_
  refine C_seq (fun K8_ hK8_ => ?_)
  refine C_reg ?_
  refine S_list (T_val (v := (Value.bool true)) (x_bin rfl rfl rfl) ?_)
  refine S_list (T_val (v := (Value.bool true)) (x_assign rfl) ?_)
  refine wpList_nil ?_
  refine (X_then (hK8_ _ _ ?_))
  clear hK8_
  refine C_condT rfl ?_
  refine C_seq (fun K9_ hK9_ => ?_)
  refine C_seq (fun K10_ hK10_ => ?_)
  refine C_reg ?_
  refine S_list (T_val (v := (Value.pointer (some ⟨c, 0, none⟩))) (x_move rfl) ?_)
  refine S_list (T_val (v := (Value.pointer (some ⟨c, 0, none⟩))) (by kernel_rfl) ?_)
  refine S_list (T_val (v := (Value.pointer (some ⟨c, 3, none⟩))) (by kernel_rfl) ?_)
  refine S_list (T_val (v := (Value.iface 113 (Value.pointer (some ⟨u, 0, none⟩)))) (x_load1 rfl Try.underlying20 rfl ((Holds.rd H 1 rfl) 3 (Value.iface 113 (Value.pointer (some ⟨u, 0, none⟩))) rfl)) ?_)
  refine S_list (T_val (v := (Value.tuple #[(Value.pointer (some ⟨u, 0, none⟩)), (Value.bool true)])) (by kernel_rfl) ?_)
  refine S_list (T_val (v := (Value.tuple #[(Value.pointer (some ⟨u, 0, none⟩)), (Value.bool true)])) (x_move rfl) ?_)
  refine S_list (T_val (v := (Value.pointer (some ⟨u, 0, none⟩))) (by kernel_rfl) ?_)
  refine S_list (T_val (v := (Value.bool true)) (by kernel_rfl) ?_)
  refine S_list (T_val (v := (Value.pointer (some ⟨u, 0, none⟩))) (x_assign rfl) ?_)
  refine S_list (T_val (v := (Value.bool true)) (x_assign rfl) ?_)
  refine wpList_nil ?_
  refine (X_then (hK10_ _ _ ?_))
  clear hK10_
  refine C_seq (fun K11_ hK11_ => ?_)
  refine C_reg ?_
  refine S_list (T_val (v := (Value.pointer (some ⟨u, 0, none⟩))) (x_move rfl) ?_)
  refine S_list (T_val (v := (Value.bool true)) (by kernel_rfl) ?_)
  refine wpList_nil ?_
  refine (X_then (hK11_ _ _ ?_))
  clear hK11_
  refine C_condT rfl ?_
  refine C_reg ?_
  refine S_list (T_val (v := (Value.pointer (some ⟨u, 0, none⟩))) (x_move rfl) ?_)
  refine S_list (T_val (v := (Value.pointer (some ⟨u, 0, none⟩))) (by kernel_rfl) ?_)
  refine S_list (T_val (v := (Value.pointer (some ⟨u, 0, none⟩))) (by kernel_rfl) ?_)
  refine S_list (T_val (v := (Value.int .i64 n)) (x_load1 rfl Try.underlying2 rfl ((Holds.rd H 3 rfl) 0 (Value.int .i64 n) rfl)) ?_)
  refine S_list (T_val (v := (Value.int .i64 n)) (x_assign rfl) ?_)
  refine wpList_nil ?_
  refine (X_then (hK9_ _ _ ?_))
  clear hK9_
  refine C_reg ?_
  refine S_list (T_val (v := (Value.pointer (some ⟨kk, 0, none⟩))) (x_move rfl) ?_)
  refine S_list (T_val (v := (Value.pointer (some ⟨kk, 0, none⟩))) (by kernel_rfl) ?_)
  refine S_list (T_val (v := (Value.pointer (some ⟨kk, 2, none⟩))) (by kernel_rfl) ?_)
  refine S_list (T_val (v := (Value.int .i64 md)) (x_load1 rfl Try.underlying2 rfl ((Holds.rd H 2 rfl) 2 (Value.int .i64 md) rfl)) ?_)
  refine S_list (T_val (v := (Value.int .i64 n)) (x_move rfl) ?_)
  refine S_list (T_call (al := [(Value.int .i64 md), (Value.int .i64 n)]) (pre := []) (F := cl c 106 [(Value.int .i32 r), (Value.int .i32 2), K, (Value.iface 113 (Value.pointer (some ⟨u, 0, none⟩))), E] :: cl kk 123 [KK, (Value.int .i64 cr), (Value.int .i64 md), (Value.int .i64 vr), XV, (Value.int .i64 ls)] :: cl u 115 [(Value.int .i64 n)] :: F) rfl rfl cb72 (cmpI64 R md n) H ?_)
  rintro v15_ p16_ w12_ ⟨rfl, rfl⟩ S14_ H13_
  replace H13_ : Holds w12_ (ro R :: cl c 106 [(Value.int .i32 r), (Value.int .i32 2), K, (Value.iface 113 (Value.pointer (some ⟨u, 0, none⟩))), E] :: cl kk 123 [KK, (Value.int .i64 cr), (Value.int .i64 md), (Value.int .i64 vr), XV, (Value.int .i64 ls)] :: cl u 115 [(Value.int .i64 n)] :: F) := H13_
  have S17_ := Same.trans (Same.refl w) S14_
  refine S_list (T_val (v := (Value.int .i64 (ordI md n))) (x_assign rfl) ?_)
  refine wpList_nil ?_
  refine (X_blkN (X_then (hK4_ _ _ ?_)))
  clear hK4_
  refine C_seq (fun K18_ hK18_ => ?_)
  refine C_seq (fun K19_ hK19_ => ?_)
  refine C_reg ?_
  refine S_list (T_val (v := (Value.pointer (some ⟨c, 0, none⟩))) (x_move rfl) ?_)
  refine S_list (T_val (v := (Value.pointer (some ⟨c, 0, none⟩))) (by kernel_rfl) ?_)
  refine S_list (T_val (v := (Value.pointer (some ⟨c, 0, none⟩))) (by kernel_rfl) ?_)
  refine S_list (T_val (v := (Value.int .i32 r)) (x_load1 rfl Try.underlying101 rfl ((Holds.rd H13_ 1 rfl) 0 (Value.int .i32 r) rfl)) ?_)
  refine wpList_nil ?_
  refine (X_then (hK19_ _ _ ?_))
  clear hK19_
  refine C_block ?_
  refine C_seq (fun K20_ hK20_ => ?_)
  refine C_reg ?_
  refine S_list (T_val (v := (Value.bool (decide (r = 0)))) (x_bin rfl rfl rfl) ?_)
  refine S_list (T_val (v := (Value.bool (decide (r = 0)))) (x_assign rfl) ?_)
  refine wpList_nil ?_
  refine (X_then (hK20_ _ _ ?_))
  clear hK20_
  refine C_cond (b := decide (r = 0)) rfl (fun c21_t => ?_) (fun c21_f => ?_)
  · have c21_tp : r = 0 := of_decide_eq_true c21_t
    refine C_seq (fun K22_ hK22_ => ?_)
    refine C_reg ?_
    refine S_list (T_val (v := (Value.int .i64 (ordI md n))) (x_move rfl) ?_)
    refine S_list (T_val (v := (Value.bool (decide (ordI md n = 0)))) (x_bin rfl rfl rfl) ?_)
    refine S_list (T_val (v := (Value.bool (decide (ordI md n = 0)))) (x_assign rfl) ?_)
    refine wpList_nil ?_
    refine (X_then (hK22_ _ _ ?_))
    clear hK22_
    refine C_ret (X_blkR (X_thenR ?_))
    refine R_any (v := (Value.bool (decide (ordI md n = 0)))) (run_results1 rfl rfl) ?_
    have H23_ : Holds w12_ (ro R :: F) := (Holds.erase (Holds.erase (Holds.erase (Holds.bring H13_ 0 rfl) 1) 1) 1)
    exact ⟨_, [], rfl, ⟨by rw [show r = 0 by omega]; rfl, rfl⟩, S17_, H23_⟩
  · have c21_fp : ¬ (r = 0) := of_decide_eq_false c21_f
    refine C_seq (fun K24_ hK24_ => ?_)
    refine C_reg ?_
    refine S_list (T_val (v := (Value.bool (decide (r = 3)))) (x_bin rfl rfl rfl) ?_)
    refine S_list (T_val (v := (Value.bool (decide (r = 3)))) (x_assign rfl) ?_)
    refine wpList_nil ?_
    refine (X_then (hK24_ _ _ ?_))
    clear hK24_
    refine C_cond (b := decide (r = 3)) rfl (fun c25_t => ?_) (fun c25_f => ?_)
    · have c25_tp : r = 3 := of_decide_eq_true c25_t
      refine C_seq (fun K26_ hK26_ => ?_)
      refine C_reg ?_
      refine S_list (T_val (v := (Value.int .i64 (ordI md n))) (x_move rfl) ?_)
      refine S_list (T_val (v := (Value.bool (decide (ordI md n ≠ 0)))) (x_bin rfl rfl rfl) ?_)
      refine S_list (T_val (v := (Value.bool (decide (ordI md n ≠ 0)))) (x_assign rfl) ?_)
      refine wpList_nil ?_
      refine (X_then (hK26_ _ _ ?_))
      clear hK26_
      refine C_ret (X_blkR (X_thenR ?_))
      refine R_any (v := (Value.bool (decide (ordI md n ≠ 0)))) (run_results1 rfl rfl) ?_
      have H27_ : Holds w12_ (ro R :: F) := (Holds.erase (Holds.erase (Holds.erase (Holds.bring H13_ 0 rfl) 1) 1) 1)
      exact ⟨_, [], rfl, ⟨by rw [show r = 3 by omega]; rfl, rfl⟩, S17_, H27_⟩
    · have c25_fp : ¬ (r = 3) := of_decide_eq_false c25_f
      refine C_seq (fun K28_ hK28_ => ?_)
      refine C_reg ?_
      refine S_list (T_val (v := (Value.bool (decide (r = 1)))) (x_bin rfl rfl rfl) ?_)
      refine S_list (T_val (v := (Value.bool (decide (r = 1)))) (x_assign rfl) ?_)
      refine wpList_nil ?_
      refine (X_then (hK28_ _ _ ?_))
      clear hK28_
      refine C_cond (b := decide (r = 1)) rfl (fun c29_t => ?_) (fun c29_f => ?_)
      · have c29_tp : r = 1 := of_decide_eq_true c29_t
        refine C_seq (fun K30_ hK30_ => ?_)
        refine C_reg ?_
        refine S_list (T_val (v := (Value.int .i64 (ordI md n))) (x_move rfl) ?_)
        refine S_list (T_val (v := (Value.bool (decide (0 < ordI md n)))) (x_bin rfl rfl rfl) ?_)
        refine S_list (T_val (v := (Value.bool (decide (0 < ordI md n)))) (x_assign rfl) ?_)
        refine wpList_nil ?_
        refine (X_then (hK30_ _ _ ?_))
        clear hK30_
        refine C_ret (X_blkR (X_thenR ?_))
        refine R_any (v := (Value.bool (decide (0 < ordI md n)))) (run_results1 rfl rfl) ?_
        have H31_ : Holds w12_ (ro R :: F) := (Holds.erase (Holds.erase (Holds.erase (Holds.bring H13_ 0 rfl) 1) 1) 1)
        exact ⟨_, [], rfl, ⟨by rw [show r = 1 by omega]; rfl, rfl⟩, S17_, H31_⟩
      · have c29_fp : ¬ (r = 1) := of_decide_eq_false c29_f
        refine C_seq (fun K32_ hK32_ => ?_)
        refine C_reg ?_
        refine S_list (T_val (v := (Value.bool (decide (r = 2)))) (x_bin rfl rfl rfl) ?_)
        refine S_list (T_val (v := (Value.bool (decide (r = 2)))) (x_assign rfl) ?_)
        refine wpList_nil ?_
        refine (X_then (hK32_ _ _ ?_))
        clear hK32_
        refine C_cond (b := decide (r = 2)) rfl (fun c33_t => ?_) (fun c33_f => ?_)
        · have c33_tp : r = 2 := of_decide_eq_true c33_t
          refine C_seq (fun K34_ hK34_ => ?_)
          refine C_reg ?_
          refine S_list (T_val (v := (Value.int .i64 (ordI md n))) (x_move rfl) ?_)
          refine S_list (T_val (v := (Value.bool (decide (ordI md n < 0)))) (x_bin rfl rfl rfl) ?_)
          refine S_list (T_val (v := (Value.bool (decide (ordI md n < 0)))) (x_assign rfl) ?_)
          refine wpList_nil ?_
          refine (X_then (hK34_ _ _ ?_))
          clear hK34_
          refine C_ret (X_blkR (X_thenR ?_))
          refine R_any (v := (Value.bool (decide (ordI md n < 0)))) (run_results1 rfl rfl) ?_
          have H35_ : Holds w12_ (ro R :: F) := (Holds.erase (Holds.erase (Holds.erase (Holds.bring H13_ 0 rfl) 1) 1) 1)
          exact ⟨_, [], rfl, ⟨by rw [show r = 2 by omega]; rfl, rfl⟩, S17_, H35_⟩
        · have c33_fp : ¬ (r = 2) := of_decide_eq_false c33_f
          omega

set_option maxHeartbeats 400000 in
theorem kvCmp3t (R : HP) (c kk u : Nat) (r : Int) (K E KK XV VV : Value) (cr md vr ls n : Int) (x val : ByteArray) (h0 : 0 ≤ r) (h1 : r ≤ 3) :
    Tri Try.prog 60 #[(Value.pointer (some ⟨c, 0, none⟩)), (Value.pointer (some ⟨kk, 0, none⟩))] R [cl c 106 [(Value.int .i32 r), (Value.int .i32 3), K, (Value.nilIface), E], cl kk 123 [KK, (Value.int .i64 cr), (Value.int .i64 md), (Value.int .i64 vr), XV, (Value.int .i64 ls)], sl 5 1 XV x.size (bytesV (ints x))] (fun v post => v = .bool (resOk r (Lib.compareBytes (u8s (ints x)) (u8s []))) ∧ post = []) := by
  refine Tri.into (n := 152) (al := [(Value.pointer (some ⟨c, 0, none⟩)), (Value.pointer (some ⟨kk, 0, none⟩))]) Try.func60 rfl Try.ntmps60 rfl rfl fun w F H => ?_
  replace H : Holds w (ro R :: cl c 106 [(Value.int .i32 r), (Value.int .i32 3), K, (Value.nilIface), E] :: cl kk 123 [KK, (Value.int .i64 cr), (Value.int .i64 md), (Value.int .i64 vr), XV, (Value.int .i64 ls)] :: sl 5 1 XV x.size (bytesV (ints x)) :: F) := H
  refine C_seq (fun K1_ hK1_ => ?_)
  refine C_reg ?_
  refine S_list (T_val (v := (Value.bool false)) (x_assign rfl) ?_)
  refine wpList_nil ?_
  refine (X_then (hK1_ _ _ ?_))
  clear hK1_
  refine C_seq (fun K2_ hK2_ => ?_)
  refine C_reg ?_
  refine S_list (T_val (v := (Value.int .i64 0)) (x_assign rfl) ?_)
  refine wpList_nil ?_
  refine (X_then (hK2_ _ _ ?_))
  clear hK2_
  refine C_seq (fun K3_ hK3_ => ?_)
  refine C_reg ?_
  refine S_list (T_val (v := (Value.int .i64 0)) (x_assign rfl) ?_)
  refine wpList_nil ?_
  refine (X_then (hK3_ _ _ ?_))
  clear hK3_
  refine C_seq (fun K4_ hK4_ => ?_)
  refine C_seq (fun K5_ hK5_ => ?_)
  refine C_reg ?_
  refine S_list (T_val (v := (Value.pointer (some ⟨c, 0, none⟩))) (x_move rfl) ?_)
  refine S_list (T_val (v := (Value.pointer (some ⟨c, 0, none⟩))) (by kernel_rfl) ?_)
  refine S_list (T_val (v := (Value.pointer (some ⟨c, 1, none⟩))) (by kernel_rfl) ?_)
  refine S_list (T_val (v := (Value.int .i32 3)) (x_load1 rfl Try.underlying103 rfl ((Holds.rd H 1 rfl) 1 (Value.int .i32 3) rfl)) ?_)
  refine wpList_nil ?_
  refine (X_then (hK5_ _ _ ?_))
  clear hK5_
  refine C_block ?_
  refine C_seq (fun K6_ hK6_ => ?_)
  refine C_reg ?_
  refine S_list (T_val (v := (Value.bool true)) (x_bin rfl rfl rfl) ?_)
  refine S_list (T_val (v := (Value.bool true)) (x_assign rfl) ?_)
  refine wpList_nil ?_
  refine (X_then (hK6_ _ _ ?_))
  clear hK6_
  refine C_condT rfl ?_
  refine C_seq (fun K7_ hK7_ => ?_)
  refine C_reg ?_
  refine S_list (T_val (v := (Value.slice none 0 0)) (x_assign rfl) ?_)
  refine wpList_nil ?_
  refine (X_then (hK7_ _ _ ?_))
  clear hK7_
  refine C_seq (fun K8_ hK8_ => ?_)
  refine C_seq (fun K9_ hK9_ => ?_)
  refine C_reg ?_
  refine S_list (T_val (v := (Value.pointer (some ⟨c, 0, none⟩))) (x_move rfl) ?_)
  refine S_list (T_val (v := (Value.pointer (some ⟨c, 0, none⟩))) (by kernel_rfl) ?_)
  refine S_list (T_val (v := (Value.pointer (some ⟨c, 3, none⟩))) (by kernel_rfl) ?_)
  refine S_list (T_val (v := (Value.nilIface)) (x_load1 rfl Try.underlying20 rfl ((Holds.rd H 1 rfl) 3 (Value.nilIface) rfl)) ?_)
  refine S_list (T_val (v := (Value.tuple #[(Value.pointer none), (Value.bool false)])) (by kernel_rfl) ?_)
  refine S_list (T_val (v := (Value.tuple #[(Value.pointer none), (Value.bool false)])) (x_move rfl) ?_)
  refine S_list (T_val (v := (Value.pointer none)) (by kernel_rfl) ?_)
  refine S_list (T_val (v := (Value.bool false)) (by kernel_rfl) ?_)
  refine S_list (T_val (v := (Value.pointer none)) (x_assign rfl) ?_)
  refine S_list (T_val (v := (Value.bool false)) (x_assign rfl) ?_)
  refine wpList_nil ?_
  refine (X_then (hK9_ _ _ ?_))
  clear hK9_
  refine C_seq (fun K10_ hK10_ => ?_)
  refine C_reg ?_
  refine S_list (T_val (v := (Value.pointer none)) (x_move rfl) ?_)
  refine S_list (T_val (v := (Value.bool false)) (by kernel_rfl) ?_)
  refine wpList_nil ?_
  refine (X_then (hK10_ _ _ ?_))
  clear hK10_
  refine C_condF rfl ?_
  refine C_skip (X_then (hK8_ _ _ ?_))
  clear hK8_
  refine C_reg ?_
  refine S_list (T_val (v := (Value.pointer (some ⟨kk, 0, none⟩))) (x_move rfl) ?_)
  refine S_list (T_val (v := (Value.pointer (some ⟨kk, 0, none⟩))) (by kernel_rfl) ?_)
  refine S_list (T_val (v := (Value.pointer (some ⟨kk, 4, none⟩))) (by kernel_rfl) ?_)
  refine S_list (T_val (v := XV) (x_load1 rfl Try.underlying25 rfl ((Holds.rd H 2 rfl) 4 XV rfl)) ?_)
  refine S_list (T_val (v := (Value.slice none 0 0)) (x_move rfl) ?_)
  refine S_list (T_callW (al := [XV, (Value.slice none 0 0)]) rfl rfl cb71 (Calls.into (n := 8) (al := [XV, (Value.slice none 0 0)]) Try.func71 rfl Try.ntmps71 rfl rfl ?_))
  refine C_seq (fun K11_ hK11_ => ?_)
  refine C_reg ?_
  refine S_list (T_val (v := (Value.int .i64 0)) (x_assign rfl) ?_)
  refine wpList_nil ?_
  refine (X_then (hK11_ _ _ ?_))
  clear hK11_
  refine C_seq (fun K12_ hK12_ => ?_)
  refine C_reg ?_
  refine S_list (T_val (v := XV) (x_move rfl) ?_)
  refine S_list (T_val (v := (Value.slice none 0 0)) (x_move rfl) ?_)
  refine S_list (T_bcmp (fn := Try.f77) (u := XV) (v := (Value.slice none 0 0)) (xs := ints x) (ys := []) Try.func77 (by kernel_rfl) rfl (by kernel_rfl) (by kernel_rfl) rfl rfl (Holds.sl_RSw H 3 rfl) (RS.nil _ 1) ?_)
  refine S_list (T_val (v := (Value.int .i64 (Lib.compareBytes (u8s (ints x)) (u8s [])))) (x_assign rfl) ?_)
  refine wpList_nil ?_
  refine (X_then (hK12_ _ _ ?_))
  clear hK12_
  refine C_ret ?_
  refine R_any (v := (Value.int .i64 (Lib.compareBytes (u8s (ints x)) (u8s [])))) (run_results1 rfl rfl) ⟨_, rfl, ?_⟩
  refine S_list (T_val (v := (Value.int .i64 (Lib.compareBytes (u8s (ints x)) (u8s [])))) (x_assign rfl) ?_)
  refine wpList_nil ?_
  refine (X_blkN (X_then (hK4_ _ _ ?_)))
  clear hK4_
  refine C_seq (fun K13_ hK13_ => ?_)
  refine C_seq (fun K14_ hK14_ => ?_)
  refine C_reg ?_
  refine S_list (T_val (v := (Value.pointer (some ⟨c, 0, none⟩))) (x_move rfl) ?_)
  refine S_list (T_val (v := (Value.pointer (some ⟨c, 0, none⟩))) (by kernel_rfl) ?_)
  refine S_list (T_val (v := (Value.pointer (some ⟨c, 0, none⟩))) (by kernel_rfl) ?_)
  refine S_list (T_val (v := (Value.int .i32 r)) (x_load1 rfl Try.underlying101 rfl ((Holds.rd H 1 rfl) 0 (Value.int .i32 r) rfl)) ?_)
  refine wpList_nil ?_
  refine (X_then (hK14_ _ _ ?_))
  clear hK14_
  refine C_block ?_
  refine C_seq (fun K15_ hK15_ => ?_)
  refine C_reg ?_
  refine S_list (T_val (v := (Value.bool (decide (r = 0)))) (x_bin rfl rfl rfl) ?_)
  refine S_list (T_val (v := (Value.bool (decide (r = 0)))) (x_assign rfl) ?_)
  refine wpList_nil ?_
  refine (X_then (hK15_ _ _ ?_))
  clear hK15_
  refine C_cond (b := decide (r = 0)) rfl (fun c16_t => ?_) (fun c16_f => ?_)
  · have c16_tp : r = 0 := of_decide_eq_true c16_t
    refine C_seq (fun K17_ hK17_ => ?_)
    refine C_reg ?_
    refine S_list (T_val (v := (Value.int .i64 (Lib.compareBytes (u8s (ints x)) (u8s [])))) (x_move rfl) ?_)
    refine S_list (T_val (v := (Value.bool (decide (Lib.compareBytes (u8s (ints x)) (u8s []) = 0)))) (x_bin rfl rfl rfl) ?_)
    refine S_list (T_val (v := (Value.bool (decide (Lib.compareBytes (u8s (ints x)) (u8s []) = 0)))) (x_assign rfl) ?_)
    refine wpList_nil ?_
    refine (X_then (hK17_ _ _ ?_))
    clear hK17_
    refine C_ret (X_blkR (X_thenR ?_))
    refine R_any (v := (Value.bool (decide (Lib.compareBytes (u8s (ints x)) (u8s []) = 0)))) (run_results1 rfl rfl) ?_
    have H18_ : Holds w (ro R :: F) := (Holds.erase (Holds.erase (Holds.erase (Holds.bring H 0 rfl) 1) 1) 1)
    exact ⟨_, [], rfl, ⟨by rw [show r = 0 by omega]; rfl, rfl⟩, (Same.refl w), H18_⟩
  · have c16_fp : ¬ (r = 0) := of_decide_eq_false c16_f
    refine C_seq (fun K19_ hK19_ => ?_)
    refine C_reg ?_
    refine S_list (T_val (v := (Value.bool (decide (r = 3)))) (x_bin rfl rfl rfl) ?_)
    refine S_list (T_val (v := (Value.bool (decide (r = 3)))) (x_assign rfl) ?_)
    refine wpList_nil ?_
    refine (X_then (hK19_ _ _ ?_))
    clear hK19_
    refine C_cond (b := decide (r = 3)) rfl (fun c20_t => ?_) (fun c20_f => ?_)
    · have c20_tp : r = 3 := of_decide_eq_true c20_t
      refine C_seq (fun K21_ hK21_ => ?_)
      refine C_reg ?_
      refine S_list (T_val (v := (Value.int .i64 (Lib.compareBytes (u8s (ints x)) (u8s [])))) (x_move rfl) ?_)
      refine S_list (T_val (v := (Value.bool (decide (Lib.compareBytes (u8s (ints x)) (u8s []) ≠ 0)))) (x_bin rfl rfl rfl) ?_)
      refine S_list (T_val (v := (Value.bool (decide (Lib.compareBytes (u8s (ints x)) (u8s []) ≠ 0)))) (x_assign rfl) ?_)
      refine wpList_nil ?_
      refine (X_then (hK21_ _ _ ?_))
      clear hK21_
      refine C_ret (X_blkR (X_thenR ?_))
      refine R_any (v := (Value.bool (decide (Lib.compareBytes (u8s (ints x)) (u8s []) ≠ 0)))) (run_results1 rfl rfl) ?_
      have H22_ : Holds w (ro R :: F) := (Holds.erase (Holds.erase (Holds.erase (Holds.bring H 0 rfl) 1) 1) 1)
      exact ⟨_, [], rfl, ⟨by rw [show r = 3 by omega]; rfl, rfl⟩, (Same.refl w), H22_⟩
    · have c20_fp : ¬ (r = 3) := of_decide_eq_false c20_f
      refine C_seq (fun K23_ hK23_ => ?_)
      refine C_reg ?_
      refine S_list (T_val (v := (Value.bool (decide (r = 1)))) (x_bin rfl rfl rfl) ?_)
      refine S_list (T_val (v := (Value.bool (decide (r = 1)))) (x_assign rfl) ?_)
      refine wpList_nil ?_
      refine (X_then (hK23_ _ _ ?_))
      clear hK23_
      refine C_cond (b := decide (r = 1)) rfl (fun c24_t => ?_) (fun c24_f => ?_)
      · have c24_tp : r = 1 := of_decide_eq_true c24_t
        refine C_seq (fun K25_ hK25_ => ?_)
        refine C_reg ?_
        refine S_list (T_val (v := (Value.int .i64 (Lib.compareBytes (u8s (ints x)) (u8s [])))) (x_move rfl) ?_)
        refine S_list (T_val (v := (Value.bool (decide (0 < Lib.compareBytes (u8s (ints x)) (u8s []))))) (x_bin rfl rfl rfl) ?_)
        refine S_list (T_val (v := (Value.bool (decide (0 < Lib.compareBytes (u8s (ints x)) (u8s []))))) (x_assign rfl) ?_)
        refine wpList_nil ?_
        refine (X_then (hK25_ _ _ ?_))
        clear hK25_
        refine C_ret (X_blkR (X_thenR ?_))
        refine R_any (v := (Value.bool (decide (0 < Lib.compareBytes (u8s (ints x)) (u8s []))))) (run_results1 rfl rfl) ?_
        have H26_ : Holds w (ro R :: F) := (Holds.erase (Holds.erase (Holds.erase (Holds.bring H 0 rfl) 1) 1) 1)
        exact ⟨_, [], rfl, ⟨by rw [show r = 1 by omega]; rfl, rfl⟩, (Same.refl w), H26_⟩
      · have c24_fp : ¬ (r = 1) := of_decide_eq_false c24_f
        refine C_seq (fun K27_ hK27_ => ?_)
        refine C_reg ?_
        refine S_list (T_val (v := (Value.bool (decide (r = 2)))) (x_bin rfl rfl rfl) ?_)
        refine S_list (T_val (v := (Value.bool (decide (r = 2)))) (x_assign rfl) ?_)
        refine wpList_nil ?_
        refine (X_then (hK27_ _ _ ?_))
        clear hK27_
        refine C_cond (b := decide (r = 2)) rfl (fun c28_t => ?_) (fun c28_f => ?_)
        · have c28_tp : r = 2 := of_decide_eq_true c28_t
          refine C_seq (fun K29_ hK29_ => ?_)
          refine C_reg ?_
          refine S_list (T_val (v := (Value.int .i64 (Lib.compareBytes (u8s (ints x)) (u8s [])))) (x_move rfl) ?_)
          refine S_list (T_val (v := (Value.bool (decide (Lib.compareBytes (u8s (ints x)) (u8s []) < 0)))) (x_bin rfl rfl rfl) ?_)
          refine S_list (T_val (v := (Value.bool (decide (Lib.compareBytes (u8s (ints x)) (u8s []) < 0)))) (x_assign rfl) ?_)
          refine wpList_nil ?_
          refine (X_then (hK29_ _ _ ?_))
          clear hK29_
          refine C_ret (X_blkR (X_thenR ?_))
          refine R_any (v := (Value.bool (decide (Lib.compareBytes (u8s (ints x)) (u8s []) < 0)))) (run_results1 rfl rfl) ?_
          have H30_ : Holds w (ro R :: F) := (Holds.erase (Holds.erase (Holds.erase (Holds.bring H 0 rfl) 1) 1) 1)
          exact ⟨_, [], rfl, ⟨by rw [show r = 2 by omega]; rfl, rfl⟩, (Same.refl w), H30_⟩
        · have c28_fp : ¬ (r = 2) := of_decide_eq_false c28_f
          omega
end Go.Proofs.Ytfdnfnjmphjdnaa
