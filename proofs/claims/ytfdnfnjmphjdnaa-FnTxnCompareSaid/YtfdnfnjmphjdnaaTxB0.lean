/- What the functions over compares come to: the package's compare. -/
import Derived.Test.YtfdnfnjmphjdnaaTxA
set_option linter.unusedVariables false
set_option linter.unusedSimpArgs false
namespace Go.Proofs.Ytfdnfnjmphjdnaa
open Go Go.RowKit Gw

/-- Does an order (less, equal, greater: below 0, 0, above 0) fulfil what is asked: 0 equal, 1 greater, 2 less, else not equal. -/
def resOk (r o : Int) : Bool := if r = 0 then decide (o = 0) else if r = 1 then decide (0 < o) else if r = 2 then decide (o < 0) else decide (o ≠ 0)

set_option maxHeartbeats 400000 in
theorem cmpIn0t (R : HP) (r : Int) (key en : ByteArray) (n : Int) (val : ByteArray) (h0 : 0 ≤ r) (h1 : r ≤ 3) :
    Tri Try.prog 36 #[(Value.agg #[(Value.int .i64 0), (Value.int .i64 r), (Value.string key), (Value.string en), (Value.int .i64 n), (Value.string val), (Value.bool true)])] R [] (fun v post => ∃ c K E, v = .pointer (some ⟨c, 0, none⟩) ∧ post = [cl c 106 [.int .i32 r, .int .i32 0, K, .nilIface, E]]) := by
  refine Tri.into (n := 75) (al := [(Value.agg #[(Value.int .i64 0), (Value.int .i64 r), (Value.string key), (Value.string en), (Value.int .i64 n), (Value.string val), (Value.bool true)])]) Try.func36 rfl Try.ntmps36 rfl rfl fun w F H => ?_
  replace H : Holds w (ro R :: F) := H
  refine C_seq (fun K1_ hK1_ => ?_)
  refine C_reg ?_
  refine S_list (T_box (v := (Value.agg #[(Value.int .i64 0), (Value.int .i64 r), (Value.string key), (Value.string en), (Value.int .i64 n), (Value.string val), (Value.bool true)])) rfl H ?_)
  intro b2_ w3_ S5_ H4_
  replace H4_ : Holds w3_ (cl b2_ 31 [(Value.int .i64 0), (Value.int .i64 r), (Value.string key), (Value.string en), (Value.int .i64 n), (Value.string val), (Value.bool true)] :: ro R :: F) := H4_
  have S6_ := Same.trans (Same.refl w) S5_
  refine S_list (T_val (v := (Value.pointer none)) (x_assign rfl) ?_)
  refine wpList_nil ?_
  refine (X_then (hK1_ _ _ ?_))
  clear hK1_
  refine C_seq (fun K7_ hK7_ => ?_)
  refine A_start (S := fun w => Rd b2_ [(Value.int .i64 0), (Value.int .i64 r), (Value.string key), (Value.string en), (Value.int .i64 n), (Value.string val), (Value.bool true)] w ∧ Sub R (hp w)) (N := 15) foll rfl rfl ?_
  have H9_ : Holds w3_.drew (cl b2_ 31 [(Value.int .i64 0), (Value.int .i64 r), (Value.string key), (Value.string en), (Value.int .i64 n), (Value.string val), (Value.bool true)] :: ro R :: F) := H4_
  refine A_take 0 (ls' := #[true, false, false, false, false, false, false, false, false, false, false, false, false, false, false]) (v := (Value.pointer (some ⟨b2_, 1, none⟩))) rfl (by kernel_rfl) (by kernel_rfl) (by kernel_rfl) (by kernel_rfl) (fun _ _ _ h => h) (fun w hS => by kernel_rfl) ⟨Holds.rd H9_ 0 rfl, Holds.ro_at H9_ 1 rfl⟩ ?_
  refine A_take 1 (ls' := #[true, true, false, false, false, false, false, false, false, false, false, false, false, false, false]) (v := (Value.int .i64 r)) rfl (by kernel_rfl) (by kernel_rfl) (by kernel_rfl) (by kernel_rfl) (fun _ _ _ h => h) (fun w hS => x_load1 rfl Try.underlying3 rfl (hS.1 1 (Value.int .i64 r) rfl)) ⟨Holds.rd H9_ 0 rfl, Holds.ro_at H9_ 1 rfl⟩ ?_
  refine A_take 3 (ls' := #[true, true, false, true, false, false, false, false, false, false, false, false, false, false, false]) (v := (Value.pointer (some ⟨b2_, 0, none⟩))) rfl (by kernel_rfl) (by kernel_rfl) (by kernel_rfl) (by kernel_rfl) (fun _ _ _ h => h) (fun w hS => by kernel_rfl) ⟨Holds.rd H9_ 0 rfl, Holds.ro_at H9_ 1 rfl⟩ ?_
  refine A_take 4 (ls' := #[true, true, false, true, true, false, false, false, false, false, false, false, false, false, false]) (v := (Value.int .i64 0)) rfl (by kernel_rfl) (by kernel_rfl) (by kernel_rfl) (by kernel_rfl) (fun _ _ _ h => h) (fun w hS => x_load1 rfl Try.underlying3 rfl (hS.1 0 (Value.int .i64 0) rfl)) ⟨Holds.rd H9_ 0 rfl, Holds.ro_at H9_ 1 rfl⟩ ?_
  refine A_take 6 (ls' := #[true, true, false, true, true, false, true, false, false, false, false, false, false, false, false]) (v := (Value.pointer (some ⟨b2_, 2, none⟩))) rfl (by kernel_rfl) (by kernel_rfl) (by kernel_rfl) (by kernel_rfl) (fun _ _ _ h => h) (fun w hS => by kernel_rfl) ⟨Holds.rd H9_ 0 rfl, Holds.ro_at H9_ 1 rfl⟩ ?_
  refine A_take 7 (ls' := #[true, true, false, true, true, false, true, true, false, false, false, false, false, false, false]) (v := (Value.string key)) rfl (by kernel_rfl) (by kernel_rfl) (by kernel_rfl) (by kernel_rfl) (fun _ _ _ h => h) (fun w hS => x_load1 rfl Try.underlying9 rfl (hS.1 2 (Value.string key) rfl)) ⟨Holds.rd H9_ 0 rfl, Holds.ro_at H9_ 1 rfl⟩ ?_
  refine A_take 9 (ls' := #[true, true, false, true, true, false, true, true, false, true, false, false, false, false, false]) (v := (Value.pointer (some ⟨b2_, 3, none⟩))) rfl (by kernel_rfl) (by kernel_rfl) (by kernel_rfl) (by kernel_rfl) (fun _ _ _ h => h) (fun w hS => by kernel_rfl) ⟨Holds.rd H9_ 0 rfl, Holds.ro_at H9_ 1 rfl⟩ ?_
  refine A_take 10 (ls' := #[true, true, false, true, true, false, true, true, false, true, true, false, false, false, false]) (v := (Value.string en)) rfl (by kernel_rfl) (by kernel_rfl) (by kernel_rfl) (by kernel_rfl) (fun _ _ _ h => h) (fun w hS => x_load1 rfl Try.underlying9 rfl (hS.1 3 (Value.string en) rfl)) ⟨Holds.rd H9_ 0 rfl, Holds.ro_at H9_ 1 rfl⟩ ?_
  refine A_ready (i := 2) (rs := [8]) (by kernel_rfl) ?_
  refine AllR.cons ?_ ?_
  · skip
    have H10_ : Holds w3_.drew (ro R :: cl b2_ 31 [(Value.int .i64 0), (Value.int .i64 r), (Value.string key), (Value.string en), (Value.int .i64 n), (Value.string val), (Value.bool true)] :: F) := (Holds.bring H9_ 1 rfl)
    refine A_op (ls' := #[true, true, true, true, true, false, true, true, false, true, true, false, false, false, false]) rfl (by kernel_rfl) (T_call (al := [(Value.int .i64 r)]) (pre := []) (F := cl b2_ 31 [(Value.int .i64 0), (Value.int .i64 r), (Value.string key), (Value.string en), (Value.int .i64 n), (Value.string val), (Value.bool true)] :: F) rfl rfl cb61 (ordSmall R r (by omega) (by omega)) H10_ ?_)
    rintro v14_ p15_ w11_ ⟨rfl, rfl⟩ S13_ H12_
    replace H12_ : Holds w11_ (ro R :: cl b2_ 31 [(Value.int .i64 0), (Value.int .i64 r), (Value.string key), (Value.string en), (Value.int .i64 n), (Value.string val), (Value.bool true)] :: F) := H12_
    have S16_ := Same.trans (Same.trans S6_ (Same.drew _)) S13_
    refine ⟨⟨Holds.rd H12_ 1 rfl, Holds.ro_at H12_ 0 rfl⟩, ?_⟩
    refine A_ready (i := 5) (rs := [8]) (by kernel_rfl) ?_
    refine AllR.cons ?_ ?_
    · skip
      refine A_op (ls' := #[true, true, true, true, true, true, true, true, false, true, true, false, false, false, false]) rfl (by kernel_rfl) (T_call (al := [(Value.int .i64 0)]) (pre := []) (F := cl b2_ 31 [(Value.int .i64 0), (Value.int .i64 r), (Value.string key), (Value.string en), (Value.int .i64 n), (Value.string val), (Value.bool true)] :: F) rfl rfl cb61 (ordSmall R 0 (by omega) (by omega)) H12_ ?_)
      rintro v20_ p21_ w17_ ⟨rfl, rfl⟩ S19_ H18_
      replace H18_ : Holds w17_ (ro R :: cl b2_ 31 [(Value.int .i64 0), (Value.int .i64 r), (Value.string key), (Value.string en), (Value.int .i64 n), (Value.string val), (Value.bool true)] :: F) := H18_
      have S22_ := Same.trans S16_ S19_
      refine ⟨⟨Holds.rd H18_ 1 rfl, Holds.ro_at H18_ 0 rfl⟩, ?_⟩
      refine A_ready (i := 8) (rs := [11]) (by kernel_rfl) ?_
      refine AllR.cons ?_ ?_
      · skip
        refine A_op (ls' := #[true, true, true, true, true, true, true, true, true, true, true, false, false, false, false]) rfl (by kernel_rfl) (T_s2b rfl Try.underlying9 Try.underlying25 Try.underlying5 H18_ ?_)
        intro b23_ cp24_ w25_ S27_ hc28_ H26_
        have S29_ := Same.trans S22_ S27_
        have H30_ : Holds w25_ (sl 5 1 (Value.slice (some ⟨b23_, 0, none⟩) key.size cp24_) key.size (bytesV (ints key)) :: ro R :: cl b2_ 31 [(Value.int .i64 0), (Value.int .i64 r), (Value.string key), (Value.string en), (Value.int .i64 n), (Value.string val), (Value.bool true)] :: F) := cast2 (P := fun (c__ : List Value) (k__ : Nat) => Holds w25_ (sl 5 1 (Value.slice (some ⟨b23_, 0, none⟩) key.size cp24_) k__ c__ :: ro R :: cl b2_ 31 [(Value.int .i64 0), (Value.int .i64 r), (Value.string key), (Value.string en), (Value.int .i64 n), (Value.string val), (Value.bool true)] :: F)) (byteCells_bytesV _ : byteCells key = bytesV (ints key)) (rfl : key.size = key.size) H26_
        refine ⟨⟨Holds.rd H30_ 2 rfl, Holds.ro_at H30_ 1 rfl⟩, ?_⟩
        refine A_ready (i := 11) (rs := []) (by kernel_rfl) ?_
        refine AllR.cons ?_ AllR.nil
        have H31_ : Holds w25_ (ro R :: sl 5 1 (Value.slice (some ⟨b23_, 0, none⟩) key.size cp24_) key.size (bytesV (ints key)) :: cl b2_ 31 [(Value.int .i64 0), (Value.int .i64 r), (Value.string key), (Value.string en), (Value.int .i64 n), (Value.string val), (Value.bool true)] :: F) := (Holds.bring H30_ 1 rfl)
        refine A_op (ls' := #[true, true, true, true, true, true, true, true, true, true, true, true, false, false, false]) rfl (by kernel_rfl) (T_call (al := [(Value.string en)]) (pre := []) (F := sl 5 1 (Value.slice (some ⟨b23_, 0, none⟩) key.size cp24_) key.size (bytesV (ints key)) :: cl b2_ 31 [(Value.int .i64 0), (Value.int .i64 r), (Value.string key), (Value.string en), (Value.int .i64 n), (Value.string val), (Value.bool true)] :: F) rfl rfl cb62 (bytesOfC R en) H31_ ?_)
        rintro v35_ p36_ w32_ rfl S34_ H33_
        replace H33_ : Holds w32_ (ro R :: sl 5 1 v35_ en.size (bytesV (ints en)) :: sl 5 1 (Value.slice (some ⟨b23_, 0, none⟩) key.size cp24_) key.size (bytesV (ints key)) :: cl b2_ 31 [(Value.int .i64 0), (Value.int .i64 r), (Value.string key), (Value.string en), (Value.int .i64 n), (Value.string val), (Value.bool true)] :: F) := H33_
        have S37_ := Same.trans S29_ S34_
        obtain ⟨-, a38_, cp39_, rfl, hle40_⟩ := Holds.sl_len H33_ 1 rfl
        refine ⟨⟨Holds.rd H33_ 3 rfl, Holds.ro_at H33_ 0 rfl⟩, ?_⟩
        refine A_take 12 (ls' := #[true, true, true, true, true, true, true, true, true, true, true, true, true, false, false]) (v := (Value.agg #[(Value.int .i32 r), (Value.int .i32 0), (Value.slice (some ⟨b23_, 0, none⟩) key.size cp24_), (Value.nilIface), (Value.slice a38_ en.size cp39_)])) rfl (by kernel_rfl) (by kernel_rfl) (by kernel_rfl) (by kernel_rfl) (fun _ _ _ h => h) (fun w hS => by kernel_rfl) ⟨Holds.rd H33_ 3 rfl, Holds.ro_at H33_ 0 rfl⟩ ?_
        refine A_ready (i := 13) (rs := []) (by kernel_rfl) ?_
        refine AllR.cons ?_ AllR.nil
        refine A_op (ls' := #[true, true, true, true, true, true, true, true, true, true, true, true, true, true, false]) rfl (by kernel_rfl) (T_box (v := (Value.agg #[(Value.int .i32 r), (Value.int .i32 0), (Value.slice (some ⟨b23_, 0, none⟩) key.size cp24_), (Value.nilIface), (Value.slice a38_ en.size cp39_)])) rfl H33_ ?_)
        intro b41_ w42_ S44_ H43_
        replace H43_ : Holds w42_ (cl b41_ 106 [(Value.int .i32 r), (Value.int .i32 0), (Value.slice (some ⟨b23_, 0, none⟩) key.size cp24_), (Value.nilIface), (Value.slice a38_ en.size cp39_)] :: ro R :: sl 5 1 (Value.slice a38_ en.size cp39_) en.size (bytesV (ints en)) :: sl 5 1 (Value.slice (some ⟨b23_, 0, none⟩) key.size cp24_) key.size (bytesV (ints key)) :: cl b2_ 31 [(Value.int .i64 0), (Value.int .i64 r), (Value.string key), (Value.string en), (Value.int .i64 n), (Value.string val), (Value.bool true)] :: F) := H43_
        have S45_ := Same.trans S37_ S44_
        refine ⟨⟨Holds.rd H43_ 4 rfl, Holds.ro_at H43_ 1 rfl⟩, ?_⟩
        refine A_take 14 (ls' := #[true, true, true, true, true, true, true, true, true, true, true, true, true, true, true]) (v := (Value.pointer (some ⟨b41_, 0, none⟩))) rfl (by kernel_rfl) (by kernel_rfl) (by kernel_rfl) (by kernel_rfl) (fun _ _ _ h => h) (fun w hS => x_assign rfl) ⟨Holds.rd H43_ 4 rfl, Holds.ro_at H43_ 1 rfl⟩ ?_
        refine A_done (by kernel_rfl) ?_
        refine (X_then (hK7_ _ _ ?_))
        clear hK7_
        refine C_seq (fun K46_ hK46_ => ?_)
        refine C_seq (fun K47_ hK47_ => ?_)
        refine C_reg ?_
        refine S_list (T_val (v := (Value.pointer (some ⟨b2_, 6, none⟩))) (by kernel_rfl) ?_)
        refine S_list (T_val (v := (Value.bool true)) (x_load1 rfl Try.underlying4 rfl ((Holds.rd H43_ 4 rfl) 6 (Value.bool true) rfl)) ?_)
        refine wpList_nil ?_
        refine (X_then (hK47_ _ _ ?_))
        clear hK47_
        refine C_condT rfl ?_
        refine C_seq (fun K48_ hK48_ => ?_)
        refine C_reg ?_
        refine S_list (T_val (v := (Value.pointer (some ⟨b41_, 0, none⟩))) (x_move rfl) ?_)
        refine S_list (T_val (v := (Value.pointer (some ⟨b41_, 0, none⟩))) (x_assign rfl) ?_)
        refine wpList_nil ?_
        refine (X_then (hK48_ _ _ ?_))
        clear hK48_
        refine C_ret (X_thenR ?_)
        refine R_any (v := (Value.pointer (some ⟨b41_, 0, none⟩))) (run_results1 rfl rfl) ?_
        have H49_ : Holds w42_ (ro R :: cl b41_ 106 [(Value.int .i32 r), (Value.int .i32 0), (Value.slice (some ⟨b23_, 0, none⟩) key.size cp24_), (Value.nilIface), (Value.slice a38_ en.size cp39_)] :: F) := (Holds.erase (Holds.erase (Holds.erase (Holds.bring (Holds.bring H43_ 0 rfl) 1 rfl) 2) 2) 2)
        exact ⟨_, [cl b41_ 106 [(Value.int .i32 r), (Value.int .i32 0), (Value.slice (some ⟨b23_, 0, none⟩) key.size cp24_), (Value.nilIface), (Value.slice a38_ en.size cp39_)]], rfl, ⟨b41_, (Value.slice (some ⟨b23_, 0, none⟩) key.size cp24_), (Value.slice a38_ en.size cp39_), rfl, rfl⟩, S45_, H49_⟩
      refine AllR.cons ?_ AllR.nil
      refine A_op (ls' := #[true, true, true, true, true, true, true, true, false, true, true, true, false, false, false]) rfl (by kernel_rfl) (T_call (al := [(Value.string en)]) (pre := []) (F := cl b2_ 31 [(Value.int .i64 0), (Value.int .i64 r), (Value.string key), (Value.string en), (Value.int .i64 n), (Value.string val), (Value.bool true)] :: F) rfl rfl cb62 (bytesOfC R en) H18_ ?_)
      rintro v53_ p54_ w50_ rfl S52_ H51_
      replace H51_ : Holds w50_ (ro R :: sl 5 1 v53_ en.size (bytesV (ints en)) :: cl b2_ 31 [(Value.int .i64 0), (Value.int .i64 r), (Value.string key), (Value.string en), (Value.int .i64 n), (Value.string val), (Value.bool true)] :: F) := H51_
      have S55_ := Same.trans S22_ S52_
      obtain ⟨-, a56_, cp57_, rfl, hle58_⟩ := Holds.sl_len H51_ 1 rfl
      refine ⟨⟨Holds.rd H51_ 2 rfl, Holds.ro_at H51_ 0 rfl⟩, ?_⟩
      refine A_ready (i := 8) (rs := []) (by kernel_rfl) ?_
      refine AllR.cons ?_ AllR.nil
      refine A_op (ls' := #[true, true, true, true, true, true, true, true, true, true, true, true, false, false, false]) rfl (by kernel_rfl) (T_s2b rfl Try.underlying9 Try.underlying25 Try.underlying5 H51_ ?_)
      intro b59_ cp60_ w61_ S63_ hc64_ H62_
      have S65_ := Same.trans S55_ S63_
      have H66_ : Holds w61_ (sl 5 1 (Value.slice (some ⟨b59_, 0, none⟩) key.size cp60_) key.size (bytesV (ints key)) :: ro R :: sl 5 1 (Value.slice a56_ en.size cp57_) en.size (bytesV (ints en)) :: cl b2_ 31 [(Value.int .i64 0), (Value.int .i64 r), (Value.string key), (Value.string en), (Value.int .i64 n), (Value.string val), (Value.bool true)] :: F) := cast2 (P := fun (c__ : List Value) (k__ : Nat) => Holds w61_ (sl 5 1 (Value.slice (some ⟨b59_, 0, none⟩) key.size cp60_) k__ c__ :: ro R :: sl 5 1 (Value.slice a56_ en.size cp57_) en.size (bytesV (ints en)) :: cl b2_ 31 [(Value.int .i64 0), (Value.int .i64 r), (Value.string key), (Value.string en), (Value.int .i64 n), (Value.string val), (Value.bool true)] :: F)) (byteCells_bytesV _ : byteCells key = bytesV (ints key)) (rfl : key.size = key.size) H62_
      refine ⟨⟨Holds.rd H66_ 3 rfl, Holds.ro_at H66_ 1 rfl⟩, ?_⟩
      refine A_take 12 (ls' := #[true, true, true, true, true, true, true, true, true, true, true, true, true, false, false]) (v := (Value.agg #[(Value.int .i32 r), (Value.int .i32 0), (Value.slice (some ⟨b59_, 0, none⟩) key.size cp60_), (Value.nilIface), (Value.slice a56_ en.size cp57_)])) rfl (by kernel_rfl) (by kernel_rfl) (by kernel_rfl) (by kernel_rfl) (fun _ _ _ h => h) (fun w hS => by kernel_rfl) ⟨Holds.rd H66_ 3 rfl, Holds.ro_at H66_ 1 rfl⟩ ?_
      refine A_ready (i := 13) (rs := []) (by kernel_rfl) ?_
      refine AllR.cons ?_ AllR.nil
      refine A_op (ls' := #[true, true, true, true, true, true, true, true, true, true, true, true, true, true, false]) rfl (by kernel_rfl) (T_box (v := (Value.agg #[(Value.int .i32 r), (Value.int .i32 0), (Value.slice (some ⟨b59_, 0, none⟩) key.size cp60_), (Value.nilIface), (Value.slice a56_ en.size cp57_)])) rfl H66_ ?_)
      intro b67_ w68_ S70_ H69_
      replace H69_ : Holds w68_ (cl b67_ 106 [(Value.int .i32 r), (Value.int .i32 0), (Value.slice (some ⟨b59_, 0, none⟩) key.size cp60_), (Value.nilIface), (Value.slice a56_ en.size cp57_)] :: sl 5 1 (Value.slice (some ⟨b59_, 0, none⟩) key.size cp60_) key.size (bytesV (ints key)) :: ro R :: sl 5 1 (Value.slice a56_ en.size cp57_) en.size (bytesV (ints en)) :: cl b2_ 31 [(Value.int .i64 0), (Value.int .i64 r), (Value.string key), (Value.string en), (Value.int .i64 n), (Value.string val), (Value.bool true)] :: F) := H69_
      have S71_ := Same.trans S65_ S70_
      refine ⟨⟨Holds.rd H69_ 4 rfl, Holds.ro_at H69_ 2 rfl⟩, ?_⟩
      refine A_take 14 (ls' := #[true, true, true, true, true, true, true, true, true, true, true, true, true, true, true]) (v := (Value.pointer (some ⟨b67_, 0, none⟩))) rfl (by kernel_rfl) (by kernel_rfl) (by kernel_rfl) (by kernel_rfl) (fun _ _ _ h => h) (fun w hS => x_assign rfl) ⟨Holds.rd H69_ 4 rfl, Holds.ro_at H69_ 2 rfl⟩ ?_
      refine A_done (by kernel_rfl) ?_
      refine (X_then (hK7_ _ _ ?_))
      clear hK7_
      refine C_seq (fun K72_ hK72_ => ?_)
      refine C_seq (fun K73_ hK73_ => ?_)
      refine C_reg ?_
      refine S_list (T_val (v := (Value.pointer (some ⟨b2_, 6, none⟩))) (by kernel_rfl) ?_)
      refine S_list (T_val (v := (Value.bool true)) (x_load1 rfl Try.underlying4 rfl ((Holds.rd H69_ 4 rfl) 6 (Value.bool true) rfl)) ?_)
      refine wpList_nil ?_
      refine (X_then (hK73_ _ _ ?_))
      clear hK73_
      refine C_condT rfl ?_
      refine C_seq (fun K74_ hK74_ => ?_)
      refine C_reg ?_
      refine S_list (T_val (v := (Value.pointer (some ⟨b67_, 0, none⟩))) (x_move rfl) ?_)
      refine S_list (T_val (v := (Value.pointer (some ⟨b67_, 0, none⟩))) (x_assign rfl) ?_)
      refine wpList_nil ?_
      refine (X_then (hK74_ _ _ ?_))
      clear hK74_
      refine C_ret (X_thenR ?_)
      refine R_any (v := (Value.pointer (some ⟨b67_, 0, none⟩))) (run_results1 rfl rfl) ?_
      have H75_ : Holds w68_ (ro R :: cl b67_ 106 [(Value.int .i32 r), (Value.int .i32 0), (Value.slice (some ⟨b59_, 0, none⟩) key.size cp60_), (Value.nilIface), (Value.slice a56_ en.size cp57_)] :: F) := (Holds.erase (Holds.erase (Holds.erase (Holds.bring (Holds.bring H69_ 0 rfl) 2 rfl) 2) 2) 2)
      exact ⟨_, [cl b67_ 106 [(Value.int .i32 r), (Value.int .i32 0), (Value.slice (some ⟨b59_, 0, none⟩) key.size cp60_), (Value.nilIface), (Value.slice a56_ en.size cp57_)]], rfl, ⟨b67_, (Value.slice (some ⟨b59_, 0, none⟩) key.size cp60_), (Value.slice a56_ en.size cp57_), rfl, rfl⟩, S71_, H75_⟩
    refine AllR.cons ?_ AllR.nil
    refine A_op (ls' := #[true, true, true, true, true, false, true, true, true, true, true, false, false, false, false]) rfl (by kernel_rfl) (T_s2b rfl Try.underlying9 Try.underlying25 Try.underlying5 H12_ ?_)
    intro b76_ cp77_ w78_ S80_ hc81_ H79_
    have S82_ := Same.trans S16_ S80_
    have H83_ : Holds w78_ (sl 5 1 (Value.slice (some ⟨b76_, 0, none⟩) key.size cp77_) key.size (bytesV (ints key)) :: ro R :: cl b2_ 31 [(Value.int .i64 0), (Value.int .i64 r), (Value.string key), (Value.string en), (Value.int .i64 n), (Value.string val), (Value.bool true)] :: F) := cast2 (P := fun (c__ : List Value) (k__ : Nat) => Holds w78_ (sl 5 1 (Value.slice (some ⟨b76_, 0, none⟩) key.size cp77_) k__ c__ :: ro R :: cl b2_ 31 [(Value.int .i64 0), (Value.int .i64 r), (Value.string key), (Value.string en), (Value.int .i64 n), (Value.string val), (Value.bool true)] :: F)) (byteCells_bytesV _ : byteCells key = bytesV (ints key)) (rfl : key.size = key.size) H79_
    refine ⟨⟨Holds.rd H83_ 2 rfl, Holds.ro_at H83_ 1 rfl⟩, ?_⟩
    refine A_ready (i := 5) (rs := []) (by kernel_rfl) ?_
    refine AllR.cons ?_ AllR.nil
    have H84_ : Holds w78_ (ro R :: sl 5 1 (Value.slice (some ⟨b76_, 0, none⟩) key.size cp77_) key.size (bytesV (ints key)) :: cl b2_ 31 [(Value.int .i64 0), (Value.int .i64 r), (Value.string key), (Value.string en), (Value.int .i64 n), (Value.string val), (Value.bool true)] :: F) := (Holds.bring H83_ 1 rfl)
    refine A_op (ls' := #[true, true, true, true, true, true, true, true, true, true, true, false, false, false, false]) rfl (by kernel_rfl) (T_call (al := [(Value.int .i64 0)]) (pre := []) (F := sl 5 1 (Value.slice (some ⟨b76_, 0, none⟩) key.size cp77_) key.size (bytesV (ints key)) :: cl b2_ 31 [(Value.int .i64 0), (Value.int .i64 r), (Value.string key), (Value.string en), (Value.int .i64 n), (Value.string val), (Value.bool true)] :: F) rfl rfl cb61 (ordSmall R 0 (by omega) (by omega)) H84_ ?_)
    rintro v88_ p89_ w85_ ⟨rfl, rfl⟩ S87_ H86_
    replace H86_ : Holds w85_ (ro R :: sl 5 1 (Value.slice (some ⟨b76_, 0, none⟩) key.size cp77_) key.size (bytesV (ints key)) :: cl b2_ 31 [(Value.int .i64 0), (Value.int .i64 r), (Value.string key), (Value.string en), (Value.int .i64 n), (Value.string val), (Value.bool true)] :: F) := H86_
    have S90_ := Same.trans S82_ S87_
    refine ⟨⟨Holds.rd H86_ 2 rfl, Holds.ro_at H86_ 0 rfl⟩, ?_⟩
    refine A_ready (i := 11) (rs := []) (by kernel_rfl) ?_
    refine AllR.cons ?_ AllR.nil
    refine A_op (ls' := #[true, true, true, true, true, true, true, true, true, true, true, true, false, false, false]) rfl (by kernel_rfl) (T_call (al := [(Value.string en)]) (pre := []) (F := sl 5 1 (Value.slice (some ⟨b76_, 0, none⟩) key.size cp77_) key.size (bytesV (ints key)) :: cl b2_ 31 [(Value.int .i64 0), (Value.int .i64 r), (Value.string key), (Value.string en), (Value.int .i64 n), (Value.string val), (Value.bool true)] :: F) rfl rfl cb62 (bytesOfC R en) H86_ ?_)
    rintro v94_ p95_ w91_ rfl S93_ H92_
    replace H92_ : Holds w91_ (ro R :: sl 5 1 v94_ en.size (bytesV (ints en)) :: sl 5 1 (Value.slice (some ⟨b76_, 0, none⟩) key.size cp77_) key.size (bytesV (ints key)) :: cl b2_ 31 [(Value.int .i64 0), (Value.int .i64 r), (Value.string key), (Value.string en), (Value.int .i64 n), (Value.string val), (Value.bool true)] :: F) := H92_
    have S96_ := Same.trans S90_ S93_
    obtain ⟨-, a97_, cp98_, rfl, hle99_⟩ := Holds.sl_len H92_ 1 rfl
    refine ⟨⟨Holds.rd H92_ 3 rfl, Holds.ro_at H92_ 0 rfl⟩, ?_⟩
    refine A_take 12 (ls' := #[true, true, true, true, true, true, true, true, true, true, true, true, true, false, false]) (v := (Value.agg #[(Value.int .i32 r), (Value.int .i32 0), (Value.slice (some ⟨b76_, 0, none⟩) key.size cp77_), (Value.nilIface), (Value.slice a97_ en.size cp98_)])) rfl (by kernel_rfl) (by kernel_rfl) (by kernel_rfl) (by kernel_rfl) (fun _ _ _ h => h) (fun w hS => by kernel_rfl) ⟨Holds.rd H92_ 3 rfl, Holds.ro_at H92_ 0 rfl⟩ ?_
    refine A_ready (i := 13) (rs := []) (by kernel_rfl) ?_
    refine AllR.cons ?_ AllR.nil
    refine A_op (ls' := #[true, true, true, true, true, true, true, true, true, true, true, true, true, true, false]) rfl (by kernel_rfl) (T_box (v := (Value.agg #[(Value.int .i32 r), (Value.int .i32 0), (Value.slice (some ⟨b76_, 0, none⟩) key.size cp77_), (Value.nilIface), (Value.slice a97_ en.size cp98_)])) rfl H92_ ?_)
    intro b100_ w101_ S103_ H102_
    replace H102_ : Holds w101_ (cl b100_ 106 [(Value.int .i32 r), (Value.int .i32 0), (Value.slice (some ⟨b76_, 0, none⟩) key.size cp77_), (Value.nilIface), (Value.slice a97_ en.size cp98_)] :: ro R :: sl 5 1 (Value.slice a97_ en.size cp98_) en.size (bytesV (ints en)) :: sl 5 1 (Value.slice (some ⟨b76_, 0, none⟩) key.size cp77_) key.size (bytesV (ints key)) :: cl b2_ 31 [(Value.int .i64 0), (Value.int .i64 r), (Value.string key), (Value.string en), (Value.int .i64 n), (Value.string val), (Value.bool true)] :: F) := H102_
    have S104_ := Same.trans S96_ S103_
    refine ⟨⟨Holds.rd H102_ 4 rfl, Holds.ro_at H102_ 1 rfl⟩, ?_⟩
    refine A_take 14 (ls' := #[true, true, true, true, true, true, true, true, true, true, true, true, true, true, true]) (v := (Value.pointer (some ⟨b100_, 0, none⟩))) rfl (by kernel_rfl) (by kernel_rfl) (by kernel_rfl) (by kernel_rfl) (fun _ _ _ h => h) (fun w hS => x_assign rfl) ⟨Holds.rd H102_ 4 rfl, Holds.ro_at H102_ 1 rfl⟩ ?_
    refine A_done (by kernel_rfl) ?_
    refine (X_then (hK7_ _ _ ?_))
    clear hK7_
    refine C_seq (fun K105_ hK105_ => ?_)
    refine C_seq (fun K106_ hK106_ => ?_)
    refine C_reg ?_
    refine S_list (T_val (v := (Value.pointer (some ⟨b2_, 6, none⟩))) (by kernel_rfl) ?_)
    refine S_list (T_val (v := (Value.bool true)) (x_load1 rfl Try.underlying4 rfl ((Holds.rd H102_ 4 rfl) 6 (Value.bool true) rfl)) ?_)
    refine wpList_nil ?_
    refine (X_then (hK106_ _ _ ?_))
    clear hK106_
    refine C_condT rfl ?_
    refine C_seq (fun K107_ hK107_ => ?_)
    refine C_reg ?_
    refine S_list (T_val (v := (Value.pointer (some ⟨b100_, 0, none⟩))) (x_move rfl) ?_)
    refine S_list (T_val (v := (Value.pointer (some ⟨b100_, 0, none⟩))) (x_assign rfl) ?_)
    refine wpList_nil ?_
    refine (X_then (hK107_ _ _ ?_))
    clear hK107_
    refine C_ret (X_thenR ?_)
    refine R_any (v := (Value.pointer (some ⟨b100_, 0, none⟩))) (run_results1 rfl rfl) ?_
    have H108_ : Holds w101_ (ro R :: cl b100_ 106 [(Value.int .i32 r), (Value.int .i32 0), (Value.slice (some ⟨b76_, 0, none⟩) key.size cp77_), (Value.nilIface), (Value.slice a97_ en.size cp98_)] :: F) := (Holds.erase (Holds.erase (Holds.erase (Holds.bring (Holds.bring H102_ 0 rfl) 1 rfl) 2) 2) 2)
    exact ⟨_, [cl b100_ 106 [(Value.int .i32 r), (Value.int .i32 0), (Value.slice (some ⟨b76_, 0, none⟩) key.size cp77_), (Value.nilIface), (Value.slice a97_ en.size cp98_)]], rfl, ⟨b100_, (Value.slice (some ⟨b76_, 0, none⟩) key.size cp77_), (Value.slice a97_ en.size cp98_), rfl, rfl⟩, S104_, H108_⟩
  refine AllR.cons ?_ AllR.nil
  refine A_op (ls' := #[true, true, false, true, true, false, true, true, true, true, true, false, false, false, false]) rfl (by kernel_rfl) (T_s2b rfl Try.underlying9 Try.underlying25 Try.underlying5 H9_ ?_)
  intro b109_ cp110_ w111_ S113_ hc114_ H112_
  have S115_ := Same.trans (Same.trans S6_ (Same.drew _)) S113_
  have H116_ : Holds w111_ (sl 5 1 (Value.slice (some ⟨b109_, 0, none⟩) key.size cp110_) key.size (bytesV (ints key)) :: cl b2_ 31 [(Value.int .i64 0), (Value.int .i64 r), (Value.string key), (Value.string en), (Value.int .i64 n), (Value.string val), (Value.bool true)] :: ro R :: F) := cast2 (P := fun (c__ : List Value) (k__ : Nat) => Holds w111_ (sl 5 1 (Value.slice (some ⟨b109_, 0, none⟩) key.size cp110_) k__ c__ :: cl b2_ 31 [(Value.int .i64 0), (Value.int .i64 r), (Value.string key), (Value.string en), (Value.int .i64 n), (Value.string val), (Value.bool true)] :: ro R :: F)) (byteCells_bytesV _ : byteCells key = bytesV (ints key)) (rfl : key.size = key.size) H112_
  refine ⟨⟨Holds.rd H116_ 1 rfl, Holds.ro_at H116_ 2 rfl⟩, ?_⟩
  refine A_ready (i := 2) (rs := []) (by kernel_rfl) ?_
  refine AllR.cons ?_ AllR.nil
  have H117_ : Holds w111_ (ro R :: sl 5 1 (Value.slice (some ⟨b109_, 0, none⟩) key.size cp110_) key.size (bytesV (ints key)) :: cl b2_ 31 [(Value.int .i64 0), (Value.int .i64 r), (Value.string key), (Value.string en), (Value.int .i64 n), (Value.string val), (Value.bool true)] :: F) := (Holds.bring H116_ 2 rfl)
  refine A_op (ls' := #[true, true, true, true, true, false, true, true, true, true, true, false, false, false, false]) rfl (by kernel_rfl) (T_call (al := [(Value.int .i64 r)]) (pre := []) (F := sl 5 1 (Value.slice (some ⟨b109_, 0, none⟩) key.size cp110_) key.size (bytesV (ints key)) :: cl b2_ 31 [(Value.int .i64 0), (Value.int .i64 r), (Value.string key), (Value.string en), (Value.int .i64 n), (Value.string val), (Value.bool true)] :: F) rfl rfl cb61 (ordSmall R r (by omega) (by omega)) H117_ ?_)
  rintro v121_ p122_ w118_ ⟨rfl, rfl⟩ S120_ H119_
  replace H119_ : Holds w118_ (ro R :: sl 5 1 (Value.slice (some ⟨b109_, 0, none⟩) key.size cp110_) key.size (bytesV (ints key)) :: cl b2_ 31 [(Value.int .i64 0), (Value.int .i64 r), (Value.string key), (Value.string en), (Value.int .i64 n), (Value.string val), (Value.bool true)] :: F) := H119_
  have S123_ := Same.trans S115_ S120_
  refine ⟨⟨Holds.rd H119_ 2 rfl, Holds.ro_at H119_ 0 rfl⟩, ?_⟩
  refine A_ready (i := 5) (rs := []) (by kernel_rfl) ?_
  refine AllR.cons ?_ AllR.nil
  refine A_op (ls' := #[true, true, true, true, true, true, true, true, true, true, true, false, false, false, false]) rfl (by kernel_rfl) (T_call (al := [(Value.int .i64 0)]) (pre := []) (F := sl 5 1 (Value.slice (some ⟨b109_, 0, none⟩) key.size cp110_) key.size (bytesV (ints key)) :: cl b2_ 31 [(Value.int .i64 0), (Value.int .i64 r), (Value.string key), (Value.string en), (Value.int .i64 n), (Value.string val), (Value.bool true)] :: F) rfl rfl cb61 (ordSmall R 0 (by omega) (by omega)) H119_ ?_)
  rintro v127_ p128_ w124_ ⟨rfl, rfl⟩ S126_ H125_
  replace H125_ : Holds w124_ (ro R :: sl 5 1 (Value.slice (some ⟨b109_, 0, none⟩) key.size cp110_) key.size (bytesV (ints key)) :: cl b2_ 31 [(Value.int .i64 0), (Value.int .i64 r), (Value.string key), (Value.string en), (Value.int .i64 n), (Value.string val), (Value.bool true)] :: F) := H125_
  have S129_ := Same.trans S123_ S126_
  refine ⟨⟨Holds.rd H125_ 2 rfl, Holds.ro_at H125_ 0 rfl⟩, ?_⟩
  refine A_ready (i := 11) (rs := []) (by kernel_rfl) ?_
  refine AllR.cons ?_ AllR.nil
  refine A_op (ls' := #[true, true, true, true, true, true, true, true, true, true, true, true, false, false, false]) rfl (by kernel_rfl) (T_call (al := [(Value.string en)]) (pre := []) (F := sl 5 1 (Value.slice (some ⟨b109_, 0, none⟩) key.size cp110_) key.size (bytesV (ints key)) :: cl b2_ 31 [(Value.int .i64 0), (Value.int .i64 r), (Value.string key), (Value.string en), (Value.int .i64 n), (Value.string val), (Value.bool true)] :: F) rfl rfl cb62 (bytesOfC R en) H125_ ?_)
  rintro v133_ p134_ w130_ rfl S132_ H131_
  replace H131_ : Holds w130_ (ro R :: sl 5 1 v133_ en.size (bytesV (ints en)) :: sl 5 1 (Value.slice (some ⟨b109_, 0, none⟩) key.size cp110_) key.size (bytesV (ints key)) :: cl b2_ 31 [(Value.int .i64 0), (Value.int .i64 r), (Value.string key), (Value.string en), (Value.int .i64 n), (Value.string val), (Value.bool true)] :: F) := H131_
  have S135_ := Same.trans S129_ S132_
  obtain ⟨-, a136_, cp137_, rfl, hle138_⟩ := Holds.sl_len H131_ 1 rfl
  refine ⟨⟨Holds.rd H131_ 3 rfl, Holds.ro_at H131_ 0 rfl⟩, ?_⟩
  refine A_take 12 (ls' := #[true, true, true, true, true, true, true, true, true, true, true, true, true, false, false]) (v := (Value.agg #[(Value.int .i32 r), (Value.int .i32 0), (Value.slice (some ⟨b109_, 0, none⟩) key.size cp110_), (Value.nilIface), (Value.slice a136_ en.size cp137_)])) rfl (by kernel_rfl) (by kernel_rfl) (by kernel_rfl) (by kernel_rfl) (fun _ _ _ h => h) (fun w hS => by kernel_rfl) ⟨Holds.rd H131_ 3 rfl, Holds.ro_at H131_ 0 rfl⟩ ?_
  refine A_ready (i := 13) (rs := []) (by kernel_rfl) ?_
  refine AllR.cons ?_ AllR.nil
  refine A_op (ls' := #[true, true, true, true, true, true, true, true, true, true, true, true, true, true, false]) rfl (by kernel_rfl) (T_box (v := (Value.agg #[(Value.int .i32 r), (Value.int .i32 0), (Value.slice (some ⟨b109_, 0, none⟩) key.size cp110_), (Value.nilIface), (Value.slice a136_ en.size cp137_)])) rfl H131_ ?_)
  intro b139_ w140_ S142_ H141_
  replace H141_ : Holds w140_ (cl b139_ 106 [(Value.int .i32 r), (Value.int .i32 0), (Value.slice (some ⟨b109_, 0, none⟩) key.size cp110_), (Value.nilIface), (Value.slice a136_ en.size cp137_)] :: ro R :: sl 5 1 (Value.slice a136_ en.size cp137_) en.size (bytesV (ints en)) :: sl 5 1 (Value.slice (some ⟨b109_, 0, none⟩) key.size cp110_) key.size (bytesV (ints key)) :: cl b2_ 31 [(Value.int .i64 0), (Value.int .i64 r), (Value.string key), (Value.string en), (Value.int .i64 n), (Value.string val), (Value.bool true)] :: F) := H141_
  have S143_ := Same.trans S135_ S142_
  refine ⟨⟨Holds.rd H141_ 4 rfl, Holds.ro_at H141_ 1 rfl⟩, ?_⟩
  refine A_take 14 (ls' := #[true, true, true, true, true, true, true, true, true, true, true, true, true, true, true]) (v := (Value.pointer (some ⟨b139_, 0, none⟩))) rfl (by kernel_rfl) (by kernel_rfl) (by kernel_rfl) (by kernel_rfl) (fun _ _ _ h => h) (fun w hS => x_assign rfl) ⟨Holds.rd H141_ 4 rfl, Holds.ro_at H141_ 1 rfl⟩ ?_
  refine A_done (by kernel_rfl) ?_
  refine (X_then (hK7_ _ _ ?_))
  clear hK7_
  refine C_seq (fun K144_ hK144_ => ?_)
  refine C_seq (fun K145_ hK145_ => ?_)
  refine C_reg ?_
  refine S_list (T_val (v := (Value.pointer (some ⟨b2_, 6, none⟩))) (by kernel_rfl) ?_)
  refine S_list (T_val (v := (Value.bool true)) (x_load1 rfl Try.underlying4 rfl ((Holds.rd H141_ 4 rfl) 6 (Value.bool true) rfl)) ?_)
  refine wpList_nil ?_
  refine (X_then (hK145_ _ _ ?_))
  clear hK145_
  refine C_condT rfl ?_
  refine C_seq (fun K146_ hK146_ => ?_)
  refine C_reg ?_
  refine S_list (T_val (v := (Value.pointer (some ⟨b139_, 0, none⟩))) (x_move rfl) ?_)
  refine S_list (T_val (v := (Value.pointer (some ⟨b139_, 0, none⟩))) (x_assign rfl) ?_)
  refine wpList_nil ?_
  refine (X_then (hK146_ _ _ ?_))
  clear hK146_
  refine C_ret (X_thenR ?_)
  refine R_any (v := (Value.pointer (some ⟨b139_, 0, none⟩))) (run_results1 rfl rfl) ?_
  have H147_ : Holds w140_ (ro R :: cl b139_ 106 [(Value.int .i32 r), (Value.int .i32 0), (Value.slice (some ⟨b109_, 0, none⟩) key.size cp110_), (Value.nilIface), (Value.slice a136_ en.size cp137_)] :: F) := (Holds.erase (Holds.erase (Holds.erase (Holds.bring (Holds.bring H141_ 0 rfl) 1 rfl) 2) 2) 2)
  exact ⟨_, [cl b139_ 106 [(Value.int .i32 r), (Value.int .i32 0), (Value.slice (some ⟨b109_, 0, none⟩) key.size cp110_), (Value.nilIface), (Value.slice a136_ en.size cp137_)]], rfl, ⟨b139_, (Value.slice (some ⟨b109_, 0, none⟩) key.size cp110_), (Value.slice a136_ en.size cp137_), rfl, rfl⟩, S143_, H147_⟩

set_option maxHeartbeats 400000 in
theorem cmpIn0f (R : HP) (r : Int) (key en : ByteArray) (n : Int) (val : ByteArray) (h0 : 0 ≤ r) (h1 : r ≤ 3) :
    Tri Try.prog 36 #[(Value.agg #[(Value.int .i64 0), (Value.int .i64 r), (Value.string key), (Value.string en), (Value.int .i64 n), (Value.string val), (Value.bool false)])] R [] (fun v post => ∃ c u K E, v = .pointer (some ⟨c, 0, none⟩) ∧ post = [cl c 106 [.int .i32 r, .int .i32 0, K, .iface 107 (.pointer (some ⟨u, 0, none⟩)), E], cl u 109 [.int .i64 n]]) := by
  refine Tri.into (n := 75) (al := [(Value.agg #[(Value.int .i64 0), (Value.int .i64 r), (Value.string key), (Value.string en), (Value.int .i64 n), (Value.string val), (Value.bool false)])]) Try.func36 rfl Try.ntmps36 rfl rfl fun w F H => ?_
  replace H : Holds w (ro R :: F) := H
  refine C_seq (fun K1_ hK1_ => ?_)
  refine C_reg ?_
  refine S_list (T_box (v := (Value.agg #[(Value.int .i64 0), (Value.int .i64 r), (Value.string key), (Value.string en), (Value.int .i64 n), (Value.string val), (Value.bool false)])) rfl H ?_)
  intro b2_ w3_ S5_ H4_
  replace H4_ : Holds w3_ (cl b2_ 31 [(Value.int .i64 0), (Value.int .i64 r), (Value.string key), (Value.string en), (Value.int .i64 n), (Value.string val), (Value.bool false)] :: ro R :: F) := H4_
  have S6_ := Same.trans (Same.refl w) S5_
  refine S_list (T_val (v := (Value.pointer none)) (x_assign rfl) ?_)
  refine wpList_nil ?_
  refine (X_then (hK1_ _ _ ?_))
  clear hK1_
  refine C_seq (fun K7_ hK7_ => ?_)
  refine A_start (S := fun w => Rd b2_ [(Value.int .i64 0), (Value.int .i64 r), (Value.string key), (Value.string en), (Value.int .i64 n), (Value.string val), (Value.bool false)] w ∧ Sub R (hp w)) (N := 15) foll rfl rfl ?_
  have H9_ : Holds w3_.drew (cl b2_ 31 [(Value.int .i64 0), (Value.int .i64 r), (Value.string key), (Value.string en), (Value.int .i64 n), (Value.string val), (Value.bool false)] :: ro R :: F) := H4_
  refine A_take 0 (ls' := #[true, false, false, false, false, false, false, false, false, false, false, false, false, false, false]) (v := (Value.pointer (some ⟨b2_, 1, none⟩))) rfl (by kernel_rfl) (by kernel_rfl) (by kernel_rfl) (by kernel_rfl) (fun _ _ _ h => h) (fun w hS => by kernel_rfl) ⟨Holds.rd H9_ 0 rfl, Holds.ro_at H9_ 1 rfl⟩ ?_
  refine A_take 1 (ls' := #[true, true, false, false, false, false, false, false, false, false, false, false, false, false, false]) (v := (Value.int .i64 r)) rfl (by kernel_rfl) (by kernel_rfl) (by kernel_rfl) (by kernel_rfl) (fun _ _ _ h => h) (fun w hS => x_load1 rfl Try.underlying3 rfl (hS.1 1 (Value.int .i64 r) rfl)) ⟨Holds.rd H9_ 0 rfl, Holds.ro_at H9_ 1 rfl⟩ ?_
  refine A_take 3 (ls' := #[true, true, false, true, false, false, false, false, false, false, false, false, false, false, false]) (v := (Value.pointer (some ⟨b2_, 0, none⟩))) rfl (by kernel_rfl) (by kernel_rfl) (by kernel_rfl) (by kernel_rfl) (fun _ _ _ h => h) (fun w hS => by kernel_rfl) ⟨Holds.rd H9_ 0 rfl, Holds.ro_at H9_ 1 rfl⟩ ?_
  refine A_take 4 (ls' := #[true, true, false, true, true, false, false, false, false, false, false, false, false, false, false]) (v := (Value.int .i64 0)) rfl (by kernel_rfl) (by kernel_rfl) (by kernel_rfl) (by kernel_rfl) (fun _ _ _ h => h) (fun w hS => x_load1 rfl Try.underlying3 rfl (hS.1 0 (Value.int .i64 0) rfl)) ⟨Holds.rd H9_ 0 rfl, Holds.ro_at H9_ 1 rfl⟩ ?_
  refine A_take 6 (ls' := #[true, true, false, true, true, false, true, false, false, false, false, false, false, false, false]) (v := (Value.pointer (some ⟨b2_, 2, none⟩))) rfl (by kernel_rfl) (by kernel_rfl) (by kernel_rfl) (by kernel_rfl) (fun _ _ _ h => h) (fun w hS => by kernel_rfl) ⟨Holds.rd H9_ 0 rfl, Holds.ro_at H9_ 1 rfl⟩ ?_
  refine A_take 7 (ls' := #[true, true, false, true, true, false, true, true, false, false, false, false, false, false, false]) (v := (Value.string key)) rfl (by kernel_rfl) (by kernel_rfl) (by kernel_rfl) (by kernel_rfl) (fun _ _ _ h => h) (fun w hS => x_load1 rfl Try.underlying9 rfl (hS.1 2 (Value.string key) rfl)) ⟨Holds.rd H9_ 0 rfl, Holds.ro_at H9_ 1 rfl⟩ ?_
  refine A_take 9 (ls' := #[true, true, false, true, true, false, true, true, false, true, false, false, false, false, false]) (v := (Value.pointer (some ⟨b2_, 3, none⟩))) rfl (by kernel_rfl) (by kernel_rfl) (by kernel_rfl) (by kernel_rfl) (fun _ _ _ h => h) (fun w hS => by kernel_rfl) ⟨Holds.rd H9_ 0 rfl, Holds.ro_at H9_ 1 rfl⟩ ?_
  refine A_take 10 (ls' := #[true, true, false, true, true, false, true, true, false, true, true, false, false, false, false]) (v := (Value.string en)) rfl (by kernel_rfl) (by kernel_rfl) (by kernel_rfl) (by kernel_rfl) (fun _ _ _ h => h) (fun w hS => x_load1 rfl Try.underlying9 rfl (hS.1 3 (Value.string en) rfl)) ⟨Holds.rd H9_ 0 rfl, Holds.ro_at H9_ 1 rfl⟩ ?_
  refine A_ready (i := 2) (rs := [8]) (by kernel_rfl) ?_
  refine AllR.cons ?_ ?_
  · skip
    have H10_ : Holds w3_.drew (ro R :: cl b2_ 31 [(Value.int .i64 0), (Value.int .i64 r), (Value.string key), (Value.string en), (Value.int .i64 n), (Value.string val), (Value.bool false)] :: F) := (Holds.bring H9_ 1 rfl)
    refine A_op (ls' := #[true, true, true, true, true, false, true, true, false, true, true, false, false, false, false]) rfl (by kernel_rfl) (T_call (al := [(Value.int .i64 r)]) (pre := []) (F := cl b2_ 31 [(Value.int .i64 0), (Value.int .i64 r), (Value.string key), (Value.string en), (Value.int .i64 n), (Value.string val), (Value.bool false)] :: F) rfl rfl cb61 (ordSmall R r (by omega) (by omega)) H10_ ?_)
    rintro v14_ p15_ w11_ ⟨rfl, rfl⟩ S13_ H12_
    replace H12_ : Holds w11_ (ro R :: cl b2_ 31 [(Value.int .i64 0), (Value.int .i64 r), (Value.string key), (Value.string en), (Value.int .i64 n), (Value.string val), (Value.bool false)] :: F) := H12_
    have S16_ := Same.trans (Same.trans S6_ (Same.drew _)) S13_
    refine ⟨⟨Holds.rd H12_ 1 rfl, Holds.ro_at H12_ 0 rfl⟩, ?_⟩
    refine A_ready (i := 5) (rs := [8]) (by kernel_rfl) ?_
    refine AllR.cons ?_ ?_
    · skip
      refine A_op (ls' := #[true, true, true, true, true, true, true, true, false, true, true, false, false, false, false]) rfl (by kernel_rfl) (T_call (al := [(Value.int .i64 0)]) (pre := []) (F := cl b2_ 31 [(Value.int .i64 0), (Value.int .i64 r), (Value.string key), (Value.string en), (Value.int .i64 n), (Value.string val), (Value.bool false)] :: F) rfl rfl cb61 (ordSmall R 0 (by omega) (by omega)) H12_ ?_)
      rintro v20_ p21_ w17_ ⟨rfl, rfl⟩ S19_ H18_
      replace H18_ : Holds w17_ (ro R :: cl b2_ 31 [(Value.int .i64 0), (Value.int .i64 r), (Value.string key), (Value.string en), (Value.int .i64 n), (Value.string val), (Value.bool false)] :: F) := H18_
      have S22_ := Same.trans S16_ S19_
      refine ⟨⟨Holds.rd H18_ 1 rfl, Holds.ro_at H18_ 0 rfl⟩, ?_⟩
      refine A_ready (i := 8) (rs := [11]) (by kernel_rfl) ?_
      refine AllR.cons ?_ ?_
      · skip
        refine A_op (ls' := #[true, true, true, true, true, true, true, true, true, true, true, false, false, false, false]) rfl (by kernel_rfl) (T_s2b rfl Try.underlying9 Try.underlying25 Try.underlying5 H18_ ?_)
        intro b23_ cp24_ w25_ S27_ hc28_ H26_
        have S29_ := Same.trans S22_ S27_
        have H30_ : Holds w25_ (sl 5 1 (Value.slice (some ⟨b23_, 0, none⟩) key.size cp24_) key.size (bytesV (ints key)) :: ro R :: cl b2_ 31 [(Value.int .i64 0), (Value.int .i64 r), (Value.string key), (Value.string en), (Value.int .i64 n), (Value.string val), (Value.bool false)] :: F) := cast2 (P := fun (c__ : List Value) (k__ : Nat) => Holds w25_ (sl 5 1 (Value.slice (some ⟨b23_, 0, none⟩) key.size cp24_) k__ c__ :: ro R :: cl b2_ 31 [(Value.int .i64 0), (Value.int .i64 r), (Value.string key), (Value.string en), (Value.int .i64 n), (Value.string val), (Value.bool false)] :: F)) (byteCells_bytesV _ : byteCells key = bytesV (ints key)) (rfl : key.size = key.size) H26_
        refine ⟨⟨Holds.rd H30_ 2 rfl, Holds.ro_at H30_ 1 rfl⟩, ?_⟩
        refine A_ready (i := 11) (rs := []) (by kernel_rfl) ?_
        refine AllR.cons ?_ AllR.nil
        have H31_ : Holds w25_ (ro R :: sl 5 1 (Value.slice (some ⟨b23_, 0, none⟩) key.size cp24_) key.size (bytesV (ints key)) :: cl b2_ 31 [(Value.int .i64 0), (Value.int .i64 r), (Value.string key), (Value.string en), (Value.int .i64 n), (Value.string val), (Value.bool false)] :: F) := (Holds.bring H30_ 1 rfl)
        refine A_op (ls' := #[true, true, true, true, true, true, true, true, true, true, true, true, false, false, false]) rfl (by kernel_rfl) (T_call (al := [(Value.string en)]) (pre := []) (F := sl 5 1 (Value.slice (some ⟨b23_, 0, none⟩) key.size cp24_) key.size (bytesV (ints key)) :: cl b2_ 31 [(Value.int .i64 0), (Value.int .i64 r), (Value.string key), (Value.string en), (Value.int .i64 n), (Value.string val), (Value.bool false)] :: F) rfl rfl cb62 (bytesOfC R en) H31_ ?_)
        rintro v35_ p36_ w32_ rfl S34_ H33_
        replace H33_ : Holds w32_ (ro R :: sl 5 1 v35_ en.size (bytesV (ints en)) :: sl 5 1 (Value.slice (some ⟨b23_, 0, none⟩) key.size cp24_) key.size (bytesV (ints key)) :: cl b2_ 31 [(Value.int .i64 0), (Value.int .i64 r), (Value.string key), (Value.string en), (Value.int .i64 n), (Value.string val), (Value.bool false)] :: F) := H33_
        have S37_ := Same.trans S29_ S34_
        obtain ⟨-, a38_, cp39_, rfl, hle40_⟩ := Holds.sl_len H33_ 1 rfl
        refine ⟨⟨Holds.rd H33_ 3 rfl, Holds.ro_at H33_ 0 rfl⟩, ?_⟩
        refine A_take 12 (ls' := #[true, true, true, true, true, true, true, true, true, true, true, true, true, false, false]) (v := (Value.agg #[(Value.int .i32 r), (Value.int .i32 0), (Value.slice (some ⟨b23_, 0, none⟩) key.size cp24_), (Value.nilIface), (Value.slice a38_ en.size cp39_)])) rfl (by kernel_rfl) (by kernel_rfl) (by kernel_rfl) (by kernel_rfl) (fun _ _ _ h => h) (fun w hS => by kernel_rfl) ⟨Holds.rd H33_ 3 rfl, Holds.ro_at H33_ 0 rfl⟩ ?_
        refine A_ready (i := 13) (rs := []) (by kernel_rfl) ?_
        refine AllR.cons ?_ AllR.nil
        refine A_op (ls' := #[true, true, true, true, true, true, true, true, true, true, true, true, true, true, false]) rfl (by kernel_rfl) (T_box (v := (Value.agg #[(Value.int .i32 r), (Value.int .i32 0), (Value.slice (some ⟨b23_, 0, none⟩) key.size cp24_), (Value.nilIface), (Value.slice a38_ en.size cp39_)])) rfl H33_ ?_)
        intro b41_ w42_ S44_ H43_
        replace H43_ : Holds w42_ (cl b41_ 106 [(Value.int .i32 r), (Value.int .i32 0), (Value.slice (some ⟨b23_, 0, none⟩) key.size cp24_), (Value.nilIface), (Value.slice a38_ en.size cp39_)] :: ro R :: sl 5 1 (Value.slice a38_ en.size cp39_) en.size (bytesV (ints en)) :: sl 5 1 (Value.slice (some ⟨b23_, 0, none⟩) key.size cp24_) key.size (bytesV (ints key)) :: cl b2_ 31 [(Value.int .i64 0), (Value.int .i64 r), (Value.string key), (Value.string en), (Value.int .i64 n), (Value.string val), (Value.bool false)] :: F) := H43_
        have S45_ := Same.trans S37_ S44_
        refine ⟨⟨Holds.rd H43_ 4 rfl, Holds.ro_at H43_ 1 rfl⟩, ?_⟩
        refine A_take 14 (ls' := #[true, true, true, true, true, true, true, true, true, true, true, true, true, true, true]) (v := (Value.pointer (some ⟨b41_, 0, none⟩))) rfl (by kernel_rfl) (by kernel_rfl) (by kernel_rfl) (by kernel_rfl) (fun _ _ _ h => h) (fun w hS => x_assign rfl) ⟨Holds.rd H43_ 4 rfl, Holds.ro_at H43_ 1 rfl⟩ ?_
        refine A_done (by kernel_rfl) ?_
        refine (X_then (hK7_ _ _ ?_))
        clear hK7_
        refine C_seq (fun K46_ hK46_ => ?_)
        refine C_seq (fun K47_ hK47_ => ?_)
        refine C_reg ?_
        refine S_list (T_val (v := (Value.pointer (some ⟨b2_, 6, none⟩))) (by kernel_rfl) ?_)
        refine S_list (T_val (v := (Value.bool false)) (x_load1 rfl Try.underlying4 rfl ((Holds.rd H43_ 4 rfl) 6 (Value.bool false) rfl)) ?_)
        refine wpList_nil ?_
        refine (X_then (hK47_ _ _ ?_))
        clear hK47_
        refine C_condF rfl ?_
        refine C_skip (X_then (hK46_ _ _ ?_))
        clear hK46_
        refine C_seq (fun K48_ hK48_ => ?_)
        refine C_seq (fun K49_ hK49_ => ?_)
        refine C_reg ?_
        refine S_list (T_val (v := (Value.pointer (some ⟨b2_, 0, none⟩))) (by kernel_rfl) ?_)
        refine S_list (T_val (v := (Value.int .i64 0)) (x_load1 rfl Try.underlying3 rfl ((Holds.rd H43_ 4 rfl) 0 (Value.int .i64 0) rfl)) ?_)
        refine wpList_nil ?_
        refine (X_then (hK49_ _ _ ?_))
        clear hK49_
        refine C_block ?_
        refine C_seq (fun K50_ hK50_ => ?_)
        refine C_reg ?_
        refine S_list (T_val (v := (Value.bool true)) (x_bin rfl rfl rfl) ?_)
        refine S_list (T_val (v := (Value.bool true)) (x_assign rfl) ?_)
        refine wpList_nil ?_
        refine (X_then (hK50_ _ _ ?_))
        clear hK50_
        refine C_condT rfl ?_
        refine C_reg ?_
        refine S_list (T_val (v := (Value.pointer (some ⟨b41_, 0, none⟩))) (x_move rfl) ?_)
        refine S_list (T_val (v := (Value.pointer (some ⟨b2_, 4, none⟩))) (by kernel_rfl) ?_)
        refine S_list (T_val (v := (Value.int .i64 n)) (x_load1 rfl Try.underlying2 rfl ((Holds.rd H43_ 4 rfl) 4 (Value.int .i64 n) rfl)) ?_)
        refine S_list (T_val (v := (Value.agg #[(Value.int .i64 n)])) (by kernel_rfl) ?_)
        refine S_list (T_box (v := (Value.agg #[(Value.int .i64 n)])) rfl H43_ ?_)
        intro b51_ w52_ S54_ H53_
        replace H53_ : Holds w52_ (cl b51_ 109 [(Value.int .i64 n)] :: cl b41_ 106 [(Value.int .i32 r), (Value.int .i32 0), (Value.slice (some ⟨b23_, 0, none⟩) key.size cp24_), (Value.nilIface), (Value.slice a38_ en.size cp39_)] :: ro R :: sl 5 1 (Value.slice a38_ en.size cp39_) en.size (bytesV (ints en)) :: sl 5 1 (Value.slice (some ⟨b23_, 0, none⟩) key.size cp24_) key.size (bytesV (ints key)) :: cl b2_ 31 [(Value.int .i64 0), (Value.int .i64 r), (Value.string key), (Value.string en), (Value.int .i64 n), (Value.string val), (Value.bool false)] :: F) := H53_
        have S55_ := Same.trans S45_ S54_
        refine S_list (T_val (v := (Value.iface 107 (Value.pointer (some ⟨b51_, 0, none⟩)))) (by kernel_rfl) ?_)
        refine S_list (T_val (v := (Value.pointer (some ⟨b41_, 0, none⟩))) (by kernel_rfl) ?_)
        refine S_list (T_val (v := (Value.pointer (some ⟨b41_, 3, none⟩))) (by kernel_rfl) ?_)
        refine S_list0 (T_store1 (v := (Value.iface 107 (Value.pointer (some ⟨b51_, 0, none⟩)))) rfl rfl z20 rfl H53_ 1 rfl (Nat.le_of_ble_eq_true (by rfl)) ?_)
        intro w56_ S58_ H57_
        replace H57_ : Holds w56_ (cl b51_ 109 [(Value.int .i64 n)] :: cl b41_ 106 [(Value.int .i32 r), (Value.int .i32 0), (Value.slice (some ⟨b23_, 0, none⟩) key.size cp24_), (Value.iface 107 (Value.pointer (some ⟨b51_, 0, none⟩))), (Value.slice a38_ en.size cp39_)] :: ro R :: sl 5 1 (Value.slice a38_ en.size cp39_) en.size (bytesV (ints en)) :: sl 5 1 (Value.slice (some ⟨b23_, 0, none⟩) key.size cp24_) key.size (bytesV (ints key)) :: cl b2_ 31 [(Value.int .i64 0), (Value.int .i64 r), (Value.string key), (Value.string en), (Value.int .i64 n), (Value.string val), (Value.bool false)] :: F) := H57_
        have S59_ := Same.trans S55_ S58_
        refine wpList_nil ?_
        refine (X_blkN (X_then (hK48_ _ _ ?_)))
        clear hK48_
        refine C_seq (fun K60_ hK60_ => ?_)
        refine C_reg ?_
        refine S_list (T_val (v := (Value.pointer (some ⟨b41_, 0, none⟩))) (x_move rfl) ?_)
        refine S_list (T_val (v := (Value.pointer (some ⟨b41_, 0, none⟩))) (x_assign rfl) ?_)
        refine wpList_nil ?_
        refine (X_then (hK60_ _ _ ?_))
        clear hK60_
        refine C_ret ?_
        refine R_any (v := (Value.pointer (some ⟨b41_, 0, none⟩))) (run_results1 rfl rfl) ?_
        have H61_ : Holds w56_ (ro R :: cl b41_ 106 [(Value.int .i32 r), (Value.int .i32 0), (Value.slice (some ⟨b23_, 0, none⟩) key.size cp24_), (Value.iface 107 (Value.pointer (some ⟨b51_, 0, none⟩))), (Value.slice a38_ en.size cp39_)] :: cl b51_ 109 [(Value.int .i64 n)] :: F) := (Holds.erase (Holds.erase (Holds.erase (Holds.bring (Holds.bring (Holds.bring H57_ 0 rfl) 1 rfl) 2 rfl) 3) 3) 3)
        exact ⟨_, [cl b41_ 106 [(Value.int .i32 r), (Value.int .i32 0), (Value.slice (some ⟨b23_, 0, none⟩) key.size cp24_), (Value.iface 107 (Value.pointer (some ⟨b51_, 0, none⟩))), (Value.slice a38_ en.size cp39_)], cl b51_ 109 [(Value.int .i64 n)]], rfl, ⟨b41_, b51_, (Value.slice (some ⟨b23_, 0, none⟩) key.size cp24_), (Value.slice a38_ en.size cp39_), rfl, rfl⟩, S59_, H61_⟩
      refine AllR.cons ?_ AllR.nil
      refine A_op (ls' := #[true, true, true, true, true, true, true, true, false, true, true, true, false, false, false]) rfl (by kernel_rfl) (T_call (al := [(Value.string en)]) (pre := []) (F := cl b2_ 31 [(Value.int .i64 0), (Value.int .i64 r), (Value.string key), (Value.string en), (Value.int .i64 n), (Value.string val), (Value.bool false)] :: F) rfl rfl cb62 (bytesOfC R en) H18_ ?_)
      rintro v65_ p66_ w62_ rfl S64_ H63_
      replace H63_ : Holds w62_ (ro R :: sl 5 1 v65_ en.size (bytesV (ints en)) :: cl b2_ 31 [(Value.int .i64 0), (Value.int .i64 r), (Value.string key), (Value.string en), (Value.int .i64 n), (Value.string val), (Value.bool false)] :: F) := H63_
      have S67_ := Same.trans S22_ S64_
      obtain ⟨-, a68_, cp69_, rfl, hle70_⟩ := Holds.sl_len H63_ 1 rfl
      refine ⟨⟨Holds.rd H63_ 2 rfl, Holds.ro_at H63_ 0 rfl⟩, ?_⟩
      refine A_ready (i := 8) (rs := []) (by kernel_rfl) ?_
      refine AllR.cons ?_ AllR.nil
      refine A_op (ls' := #[true, true, true, true, true, true, true, true, true, true, true, true, false, false, false]) rfl (by kernel_rfl) (T_s2b rfl Try.underlying9 Try.underlying25 Try.underlying5 H63_ ?_)
      intro b71_ cp72_ w73_ S75_ hc76_ H74_
      have S77_ := Same.trans S67_ S75_
      have H78_ : Holds w73_ (sl 5 1 (Value.slice (some ⟨b71_, 0, none⟩) key.size cp72_) key.size (bytesV (ints key)) :: ro R :: sl 5 1 (Value.slice a68_ en.size cp69_) en.size (bytesV (ints en)) :: cl b2_ 31 [(Value.int .i64 0), (Value.int .i64 r), (Value.string key), (Value.string en), (Value.int .i64 n), (Value.string val), (Value.bool false)] :: F) := cast2 (P := fun (c__ : List Value) (k__ : Nat) => Holds w73_ (sl 5 1 (Value.slice (some ⟨b71_, 0, none⟩) key.size cp72_) k__ c__ :: ro R :: sl 5 1 (Value.slice a68_ en.size cp69_) en.size (bytesV (ints en)) :: cl b2_ 31 [(Value.int .i64 0), (Value.int .i64 r), (Value.string key), (Value.string en), (Value.int .i64 n), (Value.string val), (Value.bool false)] :: F)) (byteCells_bytesV _ : byteCells key = bytesV (ints key)) (rfl : key.size = key.size) H74_
      refine ⟨⟨Holds.rd H78_ 3 rfl, Holds.ro_at H78_ 1 rfl⟩, ?_⟩
      refine A_take 12 (ls' := #[true, true, true, true, true, true, true, true, true, true, true, true, true, false, false]) (v := (Value.agg #[(Value.int .i32 r), (Value.int .i32 0), (Value.slice (some ⟨b71_, 0, none⟩) key.size cp72_), (Value.nilIface), (Value.slice a68_ en.size cp69_)])) rfl (by kernel_rfl) (by kernel_rfl) (by kernel_rfl) (by kernel_rfl) (fun _ _ _ h => h) (fun w hS => by kernel_rfl) ⟨Holds.rd H78_ 3 rfl, Holds.ro_at H78_ 1 rfl⟩ ?_
      refine A_ready (i := 13) (rs := []) (by kernel_rfl) ?_
      refine AllR.cons ?_ AllR.nil
      refine A_op (ls' := #[true, true, true, true, true, true, true, true, true, true, true, true, true, true, false]) rfl (by kernel_rfl) (T_box (v := (Value.agg #[(Value.int .i32 r), (Value.int .i32 0), (Value.slice (some ⟨b71_, 0, none⟩) key.size cp72_), (Value.nilIface), (Value.slice a68_ en.size cp69_)])) rfl H78_ ?_)
      intro b79_ w80_ S82_ H81_
      replace H81_ : Holds w80_ (cl b79_ 106 [(Value.int .i32 r), (Value.int .i32 0), (Value.slice (some ⟨b71_, 0, none⟩) key.size cp72_), (Value.nilIface), (Value.slice a68_ en.size cp69_)] :: sl 5 1 (Value.slice (some ⟨b71_, 0, none⟩) key.size cp72_) key.size (bytesV (ints key)) :: ro R :: sl 5 1 (Value.slice a68_ en.size cp69_) en.size (bytesV (ints en)) :: cl b2_ 31 [(Value.int .i64 0), (Value.int .i64 r), (Value.string key), (Value.string en), (Value.int .i64 n), (Value.string val), (Value.bool false)] :: F) := H81_
      have S83_ := Same.trans S77_ S82_
      refine ⟨⟨Holds.rd H81_ 4 rfl, Holds.ro_at H81_ 2 rfl⟩, ?_⟩
      refine A_take 14 (ls' := #[true, true, true, true, true, true, true, true, true, true, true, true, true, true, true]) (v := (Value.pointer (some ⟨b79_, 0, none⟩))) rfl (by kernel_rfl) (by kernel_rfl) (by kernel_rfl) (by kernel_rfl) (fun _ _ _ h => h) (fun w hS => x_assign rfl) ⟨Holds.rd H81_ 4 rfl, Holds.ro_at H81_ 2 rfl⟩ ?_
      refine A_done (by kernel_rfl) ?_
      refine (X_then (hK7_ _ _ ?_))
      clear hK7_
      refine C_seq (fun K84_ hK84_ => ?_)
      refine C_seq (fun K85_ hK85_ => ?_)
      refine C_reg ?_
      refine S_list (T_val (v := (Value.pointer (some ⟨b2_, 6, none⟩))) (by kernel_rfl) ?_)
      refine S_list (T_val (v := (Value.bool false)) (x_load1 rfl Try.underlying4 rfl ((Holds.rd H81_ 4 rfl) 6 (Value.bool false) rfl)) ?_)
      refine wpList_nil ?_
      refine (X_then (hK85_ _ _ ?_))
      clear hK85_
      refine C_condF rfl ?_
      refine C_skip (X_then (hK84_ _ _ ?_))
      clear hK84_
      refine C_seq (fun K86_ hK86_ => ?_)
      refine C_seq (fun K87_ hK87_ => ?_)
      refine C_reg ?_
      refine S_list (T_val (v := (Value.pointer (some ⟨b2_, 0, none⟩))) (by kernel_rfl) ?_)
      refine S_list (T_val (v := (Value.int .i64 0)) (x_load1 rfl Try.underlying3 rfl ((Holds.rd H81_ 4 rfl) 0 (Value.int .i64 0) rfl)) ?_)
      refine wpList_nil ?_
      refine (X_then (hK87_ _ _ ?_))
      clear hK87_
      refine C_block ?_
      refine C_seq (fun K88_ hK88_ => ?_)
      refine C_reg ?_
      refine S_list (T_val (v := (Value.bool true)) (x_bin rfl rfl rfl) ?_)
      refine S_list (T_val (v := (Value.bool true)) (x_assign rfl) ?_)
      refine wpList_nil ?_
      refine (X_then (hK88_ _ _ ?_))
      clear hK88_
      refine C_condT rfl ?_
      refine C_reg ?_
      refine S_list (T_val (v := (Value.pointer (some ⟨b79_, 0, none⟩))) (x_move rfl) ?_)
      refine S_list (T_val (v := (Value.pointer (some ⟨b2_, 4, none⟩))) (by kernel_rfl) ?_)
      refine S_list (T_val (v := (Value.int .i64 n)) (x_load1 rfl Try.underlying2 rfl ((Holds.rd H81_ 4 rfl) 4 (Value.int .i64 n) rfl)) ?_)
      refine S_list (T_val (v := (Value.agg #[(Value.int .i64 n)])) (by kernel_rfl) ?_)
      refine S_list (T_box (v := (Value.agg #[(Value.int .i64 n)])) rfl H81_ ?_)
      intro b89_ w90_ S92_ H91_
      replace H91_ : Holds w90_ (cl b89_ 109 [(Value.int .i64 n)] :: cl b79_ 106 [(Value.int .i32 r), (Value.int .i32 0), (Value.slice (some ⟨b71_, 0, none⟩) key.size cp72_), (Value.nilIface), (Value.slice a68_ en.size cp69_)] :: sl 5 1 (Value.slice (some ⟨b71_, 0, none⟩) key.size cp72_) key.size (bytesV (ints key)) :: ro R :: sl 5 1 (Value.slice a68_ en.size cp69_) en.size (bytesV (ints en)) :: cl b2_ 31 [(Value.int .i64 0), (Value.int .i64 r), (Value.string key), (Value.string en), (Value.int .i64 n), (Value.string val), (Value.bool false)] :: F) := H91_
      have S93_ := Same.trans S83_ S92_
      refine S_list (T_val (v := (Value.iface 107 (Value.pointer (some ⟨b89_, 0, none⟩)))) (by kernel_rfl) ?_)
      refine S_list (T_val (v := (Value.pointer (some ⟨b79_, 0, none⟩))) (by kernel_rfl) ?_)
      refine S_list (T_val (v := (Value.pointer (some ⟨b79_, 3, none⟩))) (by kernel_rfl) ?_)
      refine S_list0 (T_store1 (v := (Value.iface 107 (Value.pointer (some ⟨b89_, 0, none⟩)))) rfl rfl z20 rfl H91_ 1 rfl (Nat.le_of_ble_eq_true (by rfl)) ?_)
      intro w94_ S96_ H95_
      replace H95_ : Holds w94_ (cl b89_ 109 [(Value.int .i64 n)] :: cl b79_ 106 [(Value.int .i32 r), (Value.int .i32 0), (Value.slice (some ⟨b71_, 0, none⟩) key.size cp72_), (Value.iface 107 (Value.pointer (some ⟨b89_, 0, none⟩))), (Value.slice a68_ en.size cp69_)] :: sl 5 1 (Value.slice (some ⟨b71_, 0, none⟩) key.size cp72_) key.size (bytesV (ints key)) :: ro R :: sl 5 1 (Value.slice a68_ en.size cp69_) en.size (bytesV (ints en)) :: cl b2_ 31 [(Value.int .i64 0), (Value.int .i64 r), (Value.string key), (Value.string en), (Value.int .i64 n), (Value.string val), (Value.bool false)] :: F) := H95_
      have S97_ := Same.trans S93_ S96_
      refine wpList_nil ?_
      refine (X_blkN (X_then (hK86_ _ _ ?_)))
      clear hK86_
      refine C_seq (fun K98_ hK98_ => ?_)
      refine C_reg ?_
      refine S_list (T_val (v := (Value.pointer (some ⟨b79_, 0, none⟩))) (x_move rfl) ?_)
      refine S_list (T_val (v := (Value.pointer (some ⟨b79_, 0, none⟩))) (x_assign rfl) ?_)
      refine wpList_nil ?_
      refine (X_then (hK98_ _ _ ?_))
      clear hK98_
      refine C_ret ?_
      refine R_any (v := (Value.pointer (some ⟨b79_, 0, none⟩))) (run_results1 rfl rfl) ?_
      have H99_ : Holds w94_ (ro R :: cl b79_ 106 [(Value.int .i32 r), (Value.int .i32 0), (Value.slice (some ⟨b71_, 0, none⟩) key.size cp72_), (Value.iface 107 (Value.pointer (some ⟨b89_, 0, none⟩))), (Value.slice a68_ en.size cp69_)] :: cl b89_ 109 [(Value.int .i64 n)] :: F) := (Holds.erase (Holds.erase (Holds.erase (Holds.bring (Holds.bring (Holds.bring H95_ 0 rfl) 1 rfl) 3 rfl) 3) 3) 3)
      exact ⟨_, [cl b79_ 106 [(Value.int .i32 r), (Value.int .i32 0), (Value.slice (some ⟨b71_, 0, none⟩) key.size cp72_), (Value.iface 107 (Value.pointer (some ⟨b89_, 0, none⟩))), (Value.slice a68_ en.size cp69_)], cl b89_ 109 [(Value.int .i64 n)]], rfl, ⟨b79_, b89_, (Value.slice (some ⟨b71_, 0, none⟩) key.size cp72_), (Value.slice a68_ en.size cp69_), rfl, rfl⟩, S97_, H99_⟩
    refine AllR.cons ?_ AllR.nil
    refine A_op (ls' := #[true, true, true, true, true, false, true, true, true, true, true, false, false, false, false]) rfl (by kernel_rfl) (T_s2b rfl Try.underlying9 Try.underlying25 Try.underlying5 H12_ ?_)
    intro b100_ cp101_ w102_ S104_ hc105_ H103_
    have S106_ := Same.trans S16_ S104_
    have H107_ : Holds w102_ (sl 5 1 (Value.slice (some ⟨b100_, 0, none⟩) key.size cp101_) key.size (bytesV (ints key)) :: ro R :: cl b2_ 31 [(Value.int .i64 0), (Value.int .i64 r), (Value.string key), (Value.string en), (Value.int .i64 n), (Value.string val), (Value.bool false)] :: F) := cast2 (P := fun (c__ : List Value) (k__ : Nat) => Holds w102_ (sl 5 1 (Value.slice (some ⟨b100_, 0, none⟩) key.size cp101_) k__ c__ :: ro R :: cl b2_ 31 [(Value.int .i64 0), (Value.int .i64 r), (Value.string key), (Value.string en), (Value.int .i64 n), (Value.string val), (Value.bool false)] :: F)) (byteCells_bytesV _ : byteCells key = bytesV (ints key)) (rfl : key.size = key.size) H103_
    refine ⟨⟨Holds.rd H107_ 2 rfl, Holds.ro_at H107_ 1 rfl⟩, ?_⟩
    refine A_ready (i := 5) (rs := []) (by kernel_rfl) ?_
    refine AllR.cons ?_ AllR.nil
    have H108_ : Holds w102_ (ro R :: sl 5 1 (Value.slice (some ⟨b100_, 0, none⟩) key.size cp101_) key.size (bytesV (ints key)) :: cl b2_ 31 [(Value.int .i64 0), (Value.int .i64 r), (Value.string key), (Value.string en), (Value.int .i64 n), (Value.string val), (Value.bool false)] :: F) := (Holds.bring H107_ 1 rfl)
    refine A_op (ls' := #[true, true, true, true, true, true, true, true, true, true, true, false, false, false, false]) rfl (by kernel_rfl) (T_call (al := [(Value.int .i64 0)]) (pre := []) (F := sl 5 1 (Value.slice (some ⟨b100_, 0, none⟩) key.size cp101_) key.size (bytesV (ints key)) :: cl b2_ 31 [(Value.int .i64 0), (Value.int .i64 r), (Value.string key), (Value.string en), (Value.int .i64 n), (Value.string val), (Value.bool false)] :: F) rfl rfl cb61 (ordSmall R 0 (by omega) (by omega)) H108_ ?_)
    rintro v112_ p113_ w109_ ⟨rfl, rfl⟩ S111_ H110_
    replace H110_ : Holds w109_ (ro R :: sl 5 1 (Value.slice (some ⟨b100_, 0, none⟩) key.size cp101_) key.size (bytesV (ints key)) :: cl b2_ 31 [(Value.int .i64 0), (Value.int .i64 r), (Value.string key), (Value.string en), (Value.int .i64 n), (Value.string val), (Value.bool false)] :: F) := H110_
    have S114_ := Same.trans S106_ S111_
    refine ⟨⟨Holds.rd H110_ 2 rfl, Holds.ro_at H110_ 0 rfl⟩, ?_⟩
    refine A_ready (i := 11) (rs := []) (by kernel_rfl) ?_
    refine AllR.cons ?_ AllR.nil
    refine A_op (ls' := #[true, true, true, true, true, true, true, true, true, true, true, true, false, false, false]) rfl (by kernel_rfl) (T_call (al := [(Value.string en)]) (pre := []) (F := sl 5 1 (Value.slice (some ⟨b100_, 0, none⟩) key.size cp101_) key.size (bytesV (ints key)) :: cl b2_ 31 [(Value.int .i64 0), (Value.int .i64 r), (Value.string key), (Value.string en), (Value.int .i64 n), (Value.string val), (Value.bool false)] :: F) rfl rfl cb62 (bytesOfC R en) H110_ ?_)
    rintro v118_ p119_ w115_ rfl S117_ H116_
    replace H116_ : Holds w115_ (ro R :: sl 5 1 v118_ en.size (bytesV (ints en)) :: sl 5 1 (Value.slice (some ⟨b100_, 0, none⟩) key.size cp101_) key.size (bytesV (ints key)) :: cl b2_ 31 [(Value.int .i64 0), (Value.int .i64 r), (Value.string key), (Value.string en), (Value.int .i64 n), (Value.string val), (Value.bool false)] :: F) := H116_
    have S120_ := Same.trans S114_ S117_
    obtain ⟨-, a121_, cp122_, rfl, hle123_⟩ := Holds.sl_len H116_ 1 rfl
    refine ⟨⟨Holds.rd H116_ 3 rfl, Holds.ro_at H116_ 0 rfl⟩, ?_⟩
    refine A_take 12 (ls' := #[true, true, true, true, true, true, true, true, true, true, true, true, true, false, false]) (v := (Value.agg #[(Value.int .i32 r), (Value.int .i32 0), (Value.slice (some ⟨b100_, 0, none⟩) key.size cp101_), (Value.nilIface), (Value.slice a121_ en.size cp122_)])) rfl (by kernel_rfl) (by kernel_rfl) (by kernel_rfl) (by kernel_rfl) (fun _ _ _ h => h) (fun w hS => by kernel_rfl) ⟨Holds.rd H116_ 3 rfl, Holds.ro_at H116_ 0 rfl⟩ ?_
    refine A_ready (i := 13) (rs := []) (by kernel_rfl) ?_
    refine AllR.cons ?_ AllR.nil
    refine A_op (ls' := #[true, true, true, true, true, true, true, true, true, true, true, true, true, true, false]) rfl (by kernel_rfl) (T_box (v := (Value.agg #[(Value.int .i32 r), (Value.int .i32 0), (Value.slice (some ⟨b100_, 0, none⟩) key.size cp101_), (Value.nilIface), (Value.slice a121_ en.size cp122_)])) rfl H116_ ?_)
    intro b124_ w125_ S127_ H126_
    replace H126_ : Holds w125_ (cl b124_ 106 [(Value.int .i32 r), (Value.int .i32 0), (Value.slice (some ⟨b100_, 0, none⟩) key.size cp101_), (Value.nilIface), (Value.slice a121_ en.size cp122_)] :: ro R :: sl 5 1 (Value.slice a121_ en.size cp122_) en.size (bytesV (ints en)) :: sl 5 1 (Value.slice (some ⟨b100_, 0, none⟩) key.size cp101_) key.size (bytesV (ints key)) :: cl b2_ 31 [(Value.int .i64 0), (Value.int .i64 r), (Value.string key), (Value.string en), (Value.int .i64 n), (Value.string val), (Value.bool false)] :: F) := H126_
    have S128_ := Same.trans S120_ S127_
    refine ⟨⟨Holds.rd H126_ 4 rfl, Holds.ro_at H126_ 1 rfl⟩, ?_⟩
    refine A_take 14 (ls' := #[true, true, true, true, true, true, true, true, true, true, true, true, true, true, true]) (v := (Value.pointer (some ⟨b124_, 0, none⟩))) rfl (by kernel_rfl) (by kernel_rfl) (by kernel_rfl) (by kernel_rfl) (fun _ _ _ h => h) (fun w hS => x_assign rfl) ⟨Holds.rd H126_ 4 rfl, Holds.ro_at H126_ 1 rfl⟩ ?_
    refine A_done (by kernel_rfl) ?_
    refine (X_then (hK7_ _ _ ?_))
    clear hK7_
    refine C_seq (fun K129_ hK129_ => ?_)
    refine C_seq (fun K130_ hK130_ => ?_)
    refine C_reg ?_
    refine S_list (T_val (v := (Value.pointer (some ⟨b2_, 6, none⟩))) (by kernel_rfl) ?_)
    refine S_list (T_val (v := (Value.bool false)) (x_load1 rfl Try.underlying4 rfl ((Holds.rd H126_ 4 rfl) 6 (Value.bool false) rfl)) ?_)
    refine wpList_nil ?_
    refine (X_then (hK130_ _ _ ?_))
    clear hK130_
    refine C_condF rfl ?_
    refine C_skip (X_then (hK129_ _ _ ?_))
    clear hK129_
    refine C_seq (fun K131_ hK131_ => ?_)
    refine C_seq (fun K132_ hK132_ => ?_)
    refine C_reg ?_
    refine S_list (T_val (v := (Value.pointer (some ⟨b2_, 0, none⟩))) (by kernel_rfl) ?_)
    refine S_list (T_val (v := (Value.int .i64 0)) (x_load1 rfl Try.underlying3 rfl ((Holds.rd H126_ 4 rfl) 0 (Value.int .i64 0) rfl)) ?_)
    refine wpList_nil ?_
    refine (X_then (hK132_ _ _ ?_))
    clear hK132_
    refine C_block ?_
    refine C_seq (fun K133_ hK133_ => ?_)
    refine C_reg ?_
    refine S_list (T_val (v := (Value.bool true)) (x_bin rfl rfl rfl) ?_)
    refine S_list (T_val (v := (Value.bool true)) (x_assign rfl) ?_)
    refine wpList_nil ?_
    refine (X_then (hK133_ _ _ ?_))
    clear hK133_
    refine C_condT rfl ?_
    refine C_reg ?_
    refine S_list (T_val (v := (Value.pointer (some ⟨b124_, 0, none⟩))) (x_move rfl) ?_)
    refine S_list (T_val (v := (Value.pointer (some ⟨b2_, 4, none⟩))) (by kernel_rfl) ?_)
    refine S_list (T_val (v := (Value.int .i64 n)) (x_load1 rfl Try.underlying2 rfl ((Holds.rd H126_ 4 rfl) 4 (Value.int .i64 n) rfl)) ?_)
    refine S_list (T_val (v := (Value.agg #[(Value.int .i64 n)])) (by kernel_rfl) ?_)
    refine S_list (T_box (v := (Value.agg #[(Value.int .i64 n)])) rfl H126_ ?_)
    intro b134_ w135_ S137_ H136_
    replace H136_ : Holds w135_ (cl b134_ 109 [(Value.int .i64 n)] :: cl b124_ 106 [(Value.int .i32 r), (Value.int .i32 0), (Value.slice (some ⟨b100_, 0, none⟩) key.size cp101_), (Value.nilIface), (Value.slice a121_ en.size cp122_)] :: ro R :: sl 5 1 (Value.slice a121_ en.size cp122_) en.size (bytesV (ints en)) :: sl 5 1 (Value.slice (some ⟨b100_, 0, none⟩) key.size cp101_) key.size (bytesV (ints key)) :: cl b2_ 31 [(Value.int .i64 0), (Value.int .i64 r), (Value.string key), (Value.string en), (Value.int .i64 n), (Value.string val), (Value.bool false)] :: F) := H136_
    have S138_ := Same.trans S128_ S137_
    refine S_list (T_val (v := (Value.iface 107 (Value.pointer (some ⟨b134_, 0, none⟩)))) (by kernel_rfl) ?_)
    refine S_list (T_val (v := (Value.pointer (some ⟨b124_, 0, none⟩))) (by kernel_rfl) ?_)
    refine S_list (T_val (v := (Value.pointer (some ⟨b124_, 3, none⟩))) (by kernel_rfl) ?_)
    refine S_list0 (T_store1 (v := (Value.iface 107 (Value.pointer (some ⟨b134_, 0, none⟩)))) rfl rfl z20 rfl H136_ 1 rfl (Nat.le_of_ble_eq_true (by rfl)) ?_)
    intro w139_ S141_ H140_
    replace H140_ : Holds w139_ (cl b134_ 109 [(Value.int .i64 n)] :: cl b124_ 106 [(Value.int .i32 r), (Value.int .i32 0), (Value.slice (some ⟨b100_, 0, none⟩) key.size cp101_), (Value.iface 107 (Value.pointer (some ⟨b134_, 0, none⟩))), (Value.slice a121_ en.size cp122_)] :: ro R :: sl 5 1 (Value.slice a121_ en.size cp122_) en.size (bytesV (ints en)) :: sl 5 1 (Value.slice (some ⟨b100_, 0, none⟩) key.size cp101_) key.size (bytesV (ints key)) :: cl b2_ 31 [(Value.int .i64 0), (Value.int .i64 r), (Value.string key), (Value.string en), (Value.int .i64 n), (Value.string val), (Value.bool false)] :: F) := H140_
    have S142_ := Same.trans S138_ S141_
    refine wpList_nil ?_
    refine (X_blkN (X_then (hK131_ _ _ ?_)))
    clear hK131_
    refine C_seq (fun K143_ hK143_ => ?_)
    refine C_reg ?_
    refine S_list (T_val (v := (Value.pointer (some ⟨b124_, 0, none⟩))) (x_move rfl) ?_)
    refine S_list (T_val (v := (Value.pointer (some ⟨b124_, 0, none⟩))) (x_assign rfl) ?_)
    refine wpList_nil ?_
    refine (X_then (hK143_ _ _ ?_))
    clear hK143_
    refine C_ret ?_
    refine R_any (v := (Value.pointer (some ⟨b124_, 0, none⟩))) (run_results1 rfl rfl) ?_
    have H144_ : Holds w139_ (ro R :: cl b124_ 106 [(Value.int .i32 r), (Value.int .i32 0), (Value.slice (some ⟨b100_, 0, none⟩) key.size cp101_), (Value.iface 107 (Value.pointer (some ⟨b134_, 0, none⟩))), (Value.slice a121_ en.size cp122_)] :: cl b134_ 109 [(Value.int .i64 n)] :: F) := (Holds.erase (Holds.erase (Holds.erase (Holds.bring (Holds.bring (Holds.bring H140_ 0 rfl) 1 rfl) 2 rfl) 3) 3) 3)
    exact ⟨_, [cl b124_ 106 [(Value.int .i32 r), (Value.int .i32 0), (Value.slice (some ⟨b100_, 0, none⟩) key.size cp101_), (Value.iface 107 (Value.pointer (some ⟨b134_, 0, none⟩))), (Value.slice a121_ en.size cp122_)], cl b134_ 109 [(Value.int .i64 n)]], rfl, ⟨b124_, b134_, (Value.slice (some ⟨b100_, 0, none⟩) key.size cp101_), (Value.slice a121_ en.size cp122_), rfl, rfl⟩, S142_, H144_⟩
  refine AllR.cons ?_ AllR.nil
  refine A_op (ls' := #[true, true, false, true, true, false, true, true, true, true, true, false, false, false, false]) rfl (by kernel_rfl) (T_s2b rfl Try.underlying9 Try.underlying25 Try.underlying5 H9_ ?_)
  intro b145_ cp146_ w147_ S149_ hc150_ H148_
  have S151_ := Same.trans (Same.trans S6_ (Same.drew _)) S149_
  have H152_ : Holds w147_ (sl 5 1 (Value.slice (some ⟨b145_, 0, none⟩) key.size cp146_) key.size (bytesV (ints key)) :: cl b2_ 31 [(Value.int .i64 0), (Value.int .i64 r), (Value.string key), (Value.string en), (Value.int .i64 n), (Value.string val), (Value.bool false)] :: ro R :: F) := cast2 (P := fun (c__ : List Value) (k__ : Nat) => Holds w147_ (sl 5 1 (Value.slice (some ⟨b145_, 0, none⟩) key.size cp146_) k__ c__ :: cl b2_ 31 [(Value.int .i64 0), (Value.int .i64 r), (Value.string key), (Value.string en), (Value.int .i64 n), (Value.string val), (Value.bool false)] :: ro R :: F)) (byteCells_bytesV _ : byteCells key = bytesV (ints key)) (rfl : key.size = key.size) H148_
  refine ⟨⟨Holds.rd H152_ 1 rfl, Holds.ro_at H152_ 2 rfl⟩, ?_⟩
  refine A_ready (i := 2) (rs := []) (by kernel_rfl) ?_
  refine AllR.cons ?_ AllR.nil
  have H153_ : Holds w147_ (ro R :: sl 5 1 (Value.slice (some ⟨b145_, 0, none⟩) key.size cp146_) key.size (bytesV (ints key)) :: cl b2_ 31 [(Value.int .i64 0), (Value.int .i64 r), (Value.string key), (Value.string en), (Value.int .i64 n), (Value.string val), (Value.bool false)] :: F) := (Holds.bring H152_ 2 rfl)
  refine A_op (ls' := #[true, true, true, true, true, false, true, true, true, true, true, false, false, false, false]) rfl (by kernel_rfl) (T_call (al := [(Value.int .i64 r)]) (pre := []) (F := sl 5 1 (Value.slice (some ⟨b145_, 0, none⟩) key.size cp146_) key.size (bytesV (ints key)) :: cl b2_ 31 [(Value.int .i64 0), (Value.int .i64 r), (Value.string key), (Value.string en), (Value.int .i64 n), (Value.string val), (Value.bool false)] :: F) rfl rfl cb61 (ordSmall R r (by omega) (by omega)) H153_ ?_)
  rintro v157_ p158_ w154_ ⟨rfl, rfl⟩ S156_ H155_
  replace H155_ : Holds w154_ (ro R :: sl 5 1 (Value.slice (some ⟨b145_, 0, none⟩) key.size cp146_) key.size (bytesV (ints key)) :: cl b2_ 31 [(Value.int .i64 0), (Value.int .i64 r), (Value.string key), (Value.string en), (Value.int .i64 n), (Value.string val), (Value.bool false)] :: F) := H155_
  have S159_ := Same.trans S151_ S156_
  refine ⟨⟨Holds.rd H155_ 2 rfl, Holds.ro_at H155_ 0 rfl⟩, ?_⟩
  refine A_ready (i := 5) (rs := []) (by kernel_rfl) ?_
  refine AllR.cons ?_ AllR.nil
  refine A_op (ls' := #[true, true, true, true, true, true, true, true, true, true, true, false, false, false, false]) rfl (by kernel_rfl) (T_call (al := [(Value.int .i64 0)]) (pre := []) (F := sl 5 1 (Value.slice (some ⟨b145_, 0, none⟩) key.size cp146_) key.size (bytesV (ints key)) :: cl b2_ 31 [(Value.int .i64 0), (Value.int .i64 r), (Value.string key), (Value.string en), (Value.int .i64 n), (Value.string val), (Value.bool false)] :: F) rfl rfl cb61 (ordSmall R 0 (by omega) (by omega)) H155_ ?_)
  rintro v163_ p164_ w160_ ⟨rfl, rfl⟩ S162_ H161_
  replace H161_ : Holds w160_ (ro R :: sl 5 1 (Value.slice (some ⟨b145_, 0, none⟩) key.size cp146_) key.size (bytesV (ints key)) :: cl b2_ 31 [(Value.int .i64 0), (Value.int .i64 r), (Value.string key), (Value.string en), (Value.int .i64 n), (Value.string val), (Value.bool false)] :: F) := H161_
  have S165_ := Same.trans S159_ S162_
  refine ⟨⟨Holds.rd H161_ 2 rfl, Holds.ro_at H161_ 0 rfl⟩, ?_⟩
  refine A_ready (i := 11) (rs := []) (by kernel_rfl) ?_
  refine AllR.cons ?_ AllR.nil
  refine A_op (ls' := #[true, true, true, true, true, true, true, true, true, true, true, true, false, false, false]) rfl (by kernel_rfl) (T_call (al := [(Value.string en)]) (pre := []) (F := sl 5 1 (Value.slice (some ⟨b145_, 0, none⟩) key.size cp146_) key.size (bytesV (ints key)) :: cl b2_ 31 [(Value.int .i64 0), (Value.int .i64 r), (Value.string key), (Value.string en), (Value.int .i64 n), (Value.string val), (Value.bool false)] :: F) rfl rfl cb62 (bytesOfC R en) H161_ ?_)
  rintro v169_ p170_ w166_ rfl S168_ H167_
  replace H167_ : Holds w166_ (ro R :: sl 5 1 v169_ en.size (bytesV (ints en)) :: sl 5 1 (Value.slice (some ⟨b145_, 0, none⟩) key.size cp146_) key.size (bytesV (ints key)) :: cl b2_ 31 [(Value.int .i64 0), (Value.int .i64 r), (Value.string key), (Value.string en), (Value.int .i64 n), (Value.string val), (Value.bool false)] :: F) := H167_
  have S171_ := Same.trans S165_ S168_
  obtain ⟨-, a172_, cp173_, rfl, hle174_⟩ := Holds.sl_len H167_ 1 rfl
  refine ⟨⟨Holds.rd H167_ 3 rfl, Holds.ro_at H167_ 0 rfl⟩, ?_⟩
  refine A_take 12 (ls' := #[true, true, true, true, true, true, true, true, true, true, true, true, true, false, false]) (v := (Value.agg #[(Value.int .i32 r), (Value.int .i32 0), (Value.slice (some ⟨b145_, 0, none⟩) key.size cp146_), (Value.nilIface), (Value.slice a172_ en.size cp173_)])) rfl (by kernel_rfl) (by kernel_rfl) (by kernel_rfl) (by kernel_rfl) (fun _ _ _ h => h) (fun w hS => by kernel_rfl) ⟨Holds.rd H167_ 3 rfl, Holds.ro_at H167_ 0 rfl⟩ ?_
  refine A_ready (i := 13) (rs := []) (by kernel_rfl) ?_
  refine AllR.cons ?_ AllR.nil
  refine A_op (ls' := #[true, true, true, true, true, true, true, true, true, true, true, true, true, true, false]) rfl (by kernel_rfl) (T_box (v := (Value.agg #[(Value.int .i32 r), (Value.int .i32 0), (Value.slice (some ⟨b145_, 0, none⟩) key.size cp146_), (Value.nilIface), (Value.slice a172_ en.size cp173_)])) rfl H167_ ?_)
  intro b175_ w176_ S178_ H177_
  replace H177_ : Holds w176_ (cl b175_ 106 [(Value.int .i32 r), (Value.int .i32 0), (Value.slice (some ⟨b145_, 0, none⟩) key.size cp146_), (Value.nilIface), (Value.slice a172_ en.size cp173_)] :: ro R :: sl 5 1 (Value.slice a172_ en.size cp173_) en.size (bytesV (ints en)) :: sl 5 1 (Value.slice (some ⟨b145_, 0, none⟩) key.size cp146_) key.size (bytesV (ints key)) :: cl b2_ 31 [(Value.int .i64 0), (Value.int .i64 r), (Value.string key), (Value.string en), (Value.int .i64 n), (Value.string val), (Value.bool false)] :: F) := H177_
  have S179_ := Same.trans S171_ S178_
  refine ⟨⟨Holds.rd H177_ 4 rfl, Holds.ro_at H177_ 1 rfl⟩, ?_⟩
  refine A_take 14 (ls' := #[true, true, true, true, true, true, true, true, true, true, true, true, true, true, true]) (v := (Value.pointer (some ⟨b175_, 0, none⟩))) rfl (by kernel_rfl) (by kernel_rfl) (by kernel_rfl) (by kernel_rfl) (fun _ _ _ h => h) (fun w hS => x_assign rfl) ⟨Holds.rd H177_ 4 rfl, Holds.ro_at H177_ 1 rfl⟩ ?_
  refine A_done (by kernel_rfl) ?_
  refine (X_then (hK7_ _ _ ?_))
  clear hK7_
  refine C_seq (fun K180_ hK180_ => ?_)
  refine C_seq (fun K181_ hK181_ => ?_)
  refine C_reg ?_
  refine S_list (T_val (v := (Value.pointer (some ⟨b2_, 6, none⟩))) (by kernel_rfl) ?_)
  refine S_list (T_val (v := (Value.bool false)) (x_load1 rfl Try.underlying4 rfl ((Holds.rd H177_ 4 rfl) 6 (Value.bool false) rfl)) ?_)
  refine wpList_nil ?_
  refine (X_then (hK181_ _ _ ?_))
  clear hK181_
  refine C_condF rfl ?_
  refine C_skip (X_then (hK180_ _ _ ?_))
  clear hK180_
  refine C_seq (fun K182_ hK182_ => ?_)
  refine C_seq (fun K183_ hK183_ => ?_)
  refine C_reg ?_
  refine S_list (T_val (v := (Value.pointer (some ⟨b2_, 0, none⟩))) (by kernel_rfl) ?_)
  refine S_list (T_val (v := (Value.int .i64 0)) (x_load1 rfl Try.underlying3 rfl ((Holds.rd H177_ 4 rfl) 0 (Value.int .i64 0) rfl)) ?_)
  refine wpList_nil ?_
  refine (X_then (hK183_ _ _ ?_))
  clear hK183_
  refine C_block ?_
  refine C_seq (fun K184_ hK184_ => ?_)
  refine C_reg ?_
  refine S_list (T_val (v := (Value.bool true)) (x_bin rfl rfl rfl) ?_)
  refine S_list (T_val (v := (Value.bool true)) (x_assign rfl) ?_)
  refine wpList_nil ?_
  refine (X_then (hK184_ _ _ ?_))
  clear hK184_
  refine C_condT rfl ?_
  refine C_reg ?_
  refine S_list (T_val (v := (Value.pointer (some ⟨b175_, 0, none⟩))) (x_move rfl) ?_)
  refine S_list (T_val (v := (Value.pointer (some ⟨b2_, 4, none⟩))) (by kernel_rfl) ?_)
  refine S_list (T_val (v := (Value.int .i64 n)) (x_load1 rfl Try.underlying2 rfl ((Holds.rd H177_ 4 rfl) 4 (Value.int .i64 n) rfl)) ?_)
  refine S_list (T_val (v := (Value.agg #[(Value.int .i64 n)])) (by kernel_rfl) ?_)
  refine S_list (T_box (v := (Value.agg #[(Value.int .i64 n)])) rfl H177_ ?_)
  intro b185_ w186_ S188_ H187_
  replace H187_ : Holds w186_ (cl b185_ 109 [(Value.int .i64 n)] :: cl b175_ 106 [(Value.int .i32 r), (Value.int .i32 0), (Value.slice (some ⟨b145_, 0, none⟩) key.size cp146_), (Value.nilIface), (Value.slice a172_ en.size cp173_)] :: ro R :: sl 5 1 (Value.slice a172_ en.size cp173_) en.size (bytesV (ints en)) :: sl 5 1 (Value.slice (some ⟨b145_, 0, none⟩) key.size cp146_) key.size (bytesV (ints key)) :: cl b2_ 31 [(Value.int .i64 0), (Value.int .i64 r), (Value.string key), (Value.string en), (Value.int .i64 n), (Value.string val), (Value.bool false)] :: F) := H187_
  have S189_ := Same.trans S179_ S188_
  refine S_list (T_val (v := (Value.iface 107 (Value.pointer (some ⟨b185_, 0, none⟩)))) (by kernel_rfl) ?_)
  refine S_list (T_val (v := (Value.pointer (some ⟨b175_, 0, none⟩))) (by kernel_rfl) ?_)
  refine S_list (T_val (v := (Value.pointer (some ⟨b175_, 3, none⟩))) (by kernel_rfl) ?_)
  refine S_list0 (T_store1 (v := (Value.iface 107 (Value.pointer (some ⟨b185_, 0, none⟩)))) rfl rfl z20 rfl H187_ 1 rfl (Nat.le_of_ble_eq_true (by rfl)) ?_)
  intro w190_ S192_ H191_
  replace H191_ : Holds w190_ (cl b185_ 109 [(Value.int .i64 n)] :: cl b175_ 106 [(Value.int .i32 r), (Value.int .i32 0), (Value.slice (some ⟨b145_, 0, none⟩) key.size cp146_), (Value.iface 107 (Value.pointer (some ⟨b185_, 0, none⟩))), (Value.slice a172_ en.size cp173_)] :: ro R :: sl 5 1 (Value.slice a172_ en.size cp173_) en.size (bytesV (ints en)) :: sl 5 1 (Value.slice (some ⟨b145_, 0, none⟩) key.size cp146_) key.size (bytesV (ints key)) :: cl b2_ 31 [(Value.int .i64 0), (Value.int .i64 r), (Value.string key), (Value.string en), (Value.int .i64 n), (Value.string val), (Value.bool false)] :: F) := H191_
  have S193_ := Same.trans S189_ S192_
  refine wpList_nil ?_
  refine (X_blkN (X_then (hK182_ _ _ ?_)))
  clear hK182_
  refine C_seq (fun K194_ hK194_ => ?_)
  refine C_reg ?_
  refine S_list (T_val (v := (Value.pointer (some ⟨b175_, 0, none⟩))) (x_move rfl) ?_)
  refine S_list (T_val (v := (Value.pointer (some ⟨b175_, 0, none⟩))) (x_assign rfl) ?_)
  refine wpList_nil ?_
  refine (X_then (hK194_ _ _ ?_))
  clear hK194_
  refine C_ret ?_
  refine R_any (v := (Value.pointer (some ⟨b175_, 0, none⟩))) (run_results1 rfl rfl) ?_
  have H195_ : Holds w190_ (ro R :: cl b175_ 106 [(Value.int .i32 r), (Value.int .i32 0), (Value.slice (some ⟨b145_, 0, none⟩) key.size cp146_), (Value.iface 107 (Value.pointer (some ⟨b185_, 0, none⟩))), (Value.slice a172_ en.size cp173_)] :: cl b185_ 109 [(Value.int .i64 n)] :: F) := (Holds.erase (Holds.erase (Holds.erase (Holds.bring (Holds.bring (Holds.bring H191_ 0 rfl) 1 rfl) 2 rfl) 3) 3) 3)
  exact ⟨_, [cl b175_ 106 [(Value.int .i32 r), (Value.int .i32 0), (Value.slice (some ⟨b145_, 0, none⟩) key.size cp146_), (Value.iface 107 (Value.pointer (some ⟨b185_, 0, none⟩))), (Value.slice a172_ en.size cp173_)], cl b185_ 109 [(Value.int .i64 n)]], rfl, ⟨b175_, b185_, (Value.slice (some ⟨b145_, 0, none⟩) key.size cp146_), (Value.slice a172_ en.size cp173_), rfl, rfl⟩, S193_, H195_⟩

set_option maxHeartbeats 400000 in
theorem cmpIn1t (R : HP) (r : Int) (key en : ByteArray) (n : Int) (val : ByteArray) (h0 : 0 ≤ r) (h1 : r ≤ 3) :
    Tri Try.prog 36 #[(Value.agg #[(Value.int .i64 1), (Value.int .i64 r), (Value.string key), (Value.string en), (Value.int .i64 n), (Value.string val), (Value.bool true)])] R [] (fun v post => ∃ c K E, v = .pointer (some ⟨c, 0, none⟩) ∧ post = [cl c 106 [.int .i32 r, .int .i32 1, K, .nilIface, E]]) := by
  refine Tri.into (n := 75) (al := [(Value.agg #[(Value.int .i64 1), (Value.int .i64 r), (Value.string key), (Value.string en), (Value.int .i64 n), (Value.string val), (Value.bool true)])]) Try.func36 rfl Try.ntmps36 rfl rfl fun w F H => ?_
  replace H : Holds w (ro R :: F) := H
  refine C_seq (fun K1_ hK1_ => ?_)
  refine C_reg ?_
  refine S_list (T_box (v := (Value.agg #[(Value.int .i64 1), (Value.int .i64 r), (Value.string key), (Value.string en), (Value.int .i64 n), (Value.string val), (Value.bool true)])) rfl H ?_)
  intro b2_ w3_ S5_ H4_
  replace H4_ : Holds w3_ (cl b2_ 31 [(Value.int .i64 1), (Value.int .i64 r), (Value.string key), (Value.string en), (Value.int .i64 n), (Value.string val), (Value.bool true)] :: ro R :: F) := H4_
  have S6_ := Same.trans (Same.refl w) S5_
  refine S_list (T_val (v := (Value.pointer none)) (x_assign rfl) ?_)
  refine wpList_nil ?_
  refine (X_then (hK1_ _ _ ?_))
  clear hK1_
  refine C_seq (fun K7_ hK7_ => ?_)
  refine A_start (S := fun w => Rd b2_ [(Value.int .i64 1), (Value.int .i64 r), (Value.string key), (Value.string en), (Value.int .i64 n), (Value.string val), (Value.bool true)] w ∧ Sub R (hp w)) (N := 15) foll rfl rfl ?_
  have H9_ : Holds w3_.drew (cl b2_ 31 [(Value.int .i64 1), (Value.int .i64 r), (Value.string key), (Value.string en), (Value.int .i64 n), (Value.string val), (Value.bool true)] :: ro R :: F) := H4_
  refine A_take 0 (ls' := #[true, false, false, false, false, false, false, false, false, false, false, false, false, false, false]) (v := (Value.pointer (some ⟨b2_, 1, none⟩))) rfl (by kernel_rfl) (by kernel_rfl) (by kernel_rfl) (by kernel_rfl) (fun _ _ _ h => h) (fun w hS => by kernel_rfl) ⟨Holds.rd H9_ 0 rfl, Holds.ro_at H9_ 1 rfl⟩ ?_
  refine A_take 1 (ls' := #[true, true, false, false, false, false, false, false, false, false, false, false, false, false, false]) (v := (Value.int .i64 r)) rfl (by kernel_rfl) (by kernel_rfl) (by kernel_rfl) (by kernel_rfl) (fun _ _ _ h => h) (fun w hS => x_load1 rfl Try.underlying3 rfl (hS.1 1 (Value.int .i64 r) rfl)) ⟨Holds.rd H9_ 0 rfl, Holds.ro_at H9_ 1 rfl⟩ ?_
  refine A_take 3 (ls' := #[true, true, false, true, false, false, false, false, false, false, false, false, false, false, false]) (v := (Value.pointer (some ⟨b2_, 0, none⟩))) rfl (by kernel_rfl) (by kernel_rfl) (by kernel_rfl) (by kernel_rfl) (fun _ _ _ h => h) (fun w hS => by kernel_rfl) ⟨Holds.rd H9_ 0 rfl, Holds.ro_at H9_ 1 rfl⟩ ?_
  refine A_take 4 (ls' := #[true, true, false, true, true, false, false, false, false, false, false, false, false, false, false]) (v := (Value.int .i64 1)) rfl (by kernel_rfl) (by kernel_rfl) (by kernel_rfl) (by kernel_rfl) (fun _ _ _ h => h) (fun w hS => x_load1 rfl Try.underlying3 rfl (hS.1 0 (Value.int .i64 1) rfl)) ⟨Holds.rd H9_ 0 rfl, Holds.ro_at H9_ 1 rfl⟩ ?_
  refine A_take 6 (ls' := #[true, true, false, true, true, false, true, false, false, false, false, false, false, false, false]) (v := (Value.pointer (some ⟨b2_, 2, none⟩))) rfl (by kernel_rfl) (by kernel_rfl) (by kernel_rfl) (by kernel_rfl) (fun _ _ _ h => h) (fun w hS => by kernel_rfl) ⟨Holds.rd H9_ 0 rfl, Holds.ro_at H9_ 1 rfl⟩ ?_
  refine A_take 7 (ls' := #[true, true, false, true, true, false, true, true, false, false, false, false, false, false, false]) (v := (Value.string key)) rfl (by kernel_rfl) (by kernel_rfl) (by kernel_rfl) (by kernel_rfl) (fun _ _ _ h => h) (fun w hS => x_load1 rfl Try.underlying9 rfl (hS.1 2 (Value.string key) rfl)) ⟨Holds.rd H9_ 0 rfl, Holds.ro_at H9_ 1 rfl⟩ ?_
  refine A_take 9 (ls' := #[true, true, false, true, true, false, true, true, false, true, false, false, false, false, false]) (v := (Value.pointer (some ⟨b2_, 3, none⟩))) rfl (by kernel_rfl) (by kernel_rfl) (by kernel_rfl) (by kernel_rfl) (fun _ _ _ h => h) (fun w hS => by kernel_rfl) ⟨Holds.rd H9_ 0 rfl, Holds.ro_at H9_ 1 rfl⟩ ?_
  refine A_take 10 (ls' := #[true, true, false, true, true, false, true, true, false, true, true, false, false, false, false]) (v := (Value.string en)) rfl (by kernel_rfl) (by kernel_rfl) (by kernel_rfl) (by kernel_rfl) (fun _ _ _ h => h) (fun w hS => x_load1 rfl Try.underlying9 rfl (hS.1 3 (Value.string en) rfl)) ⟨Holds.rd H9_ 0 rfl, Holds.ro_at H9_ 1 rfl⟩ ?_
  refine A_ready (i := 2) (rs := [8]) (by kernel_rfl) ?_
  refine AllR.cons ?_ ?_
  · skip
    have H10_ : Holds w3_.drew (ro R :: cl b2_ 31 [(Value.int .i64 1), (Value.int .i64 r), (Value.string key), (Value.string en), (Value.int .i64 n), (Value.string val), (Value.bool true)] :: F) := (Holds.bring H9_ 1 rfl)
    refine A_op (ls' := #[true, true, true, true, true, false, true, true, false, true, true, false, false, false, false]) rfl (by kernel_rfl) (T_call (al := [(Value.int .i64 r)]) (pre := []) (F := cl b2_ 31 [(Value.int .i64 1), (Value.int .i64 r), (Value.string key), (Value.string en), (Value.int .i64 n), (Value.string val), (Value.bool true)] :: F) rfl rfl cb61 (ordSmall R r (by omega) (by omega)) H10_ ?_)
    rintro v14_ p15_ w11_ ⟨rfl, rfl⟩ S13_ H12_
    replace H12_ : Holds w11_ (ro R :: cl b2_ 31 [(Value.int .i64 1), (Value.int .i64 r), (Value.string key), (Value.string en), (Value.int .i64 n), (Value.string val), (Value.bool true)] :: F) := H12_
    have S16_ := Same.trans (Same.trans S6_ (Same.drew _)) S13_
    refine ⟨⟨Holds.rd H12_ 1 rfl, Holds.ro_at H12_ 0 rfl⟩, ?_⟩
    refine A_ready (i := 5) (rs := [8]) (by kernel_rfl) ?_
    refine AllR.cons ?_ ?_
    · skip
      refine A_op (ls' := #[true, true, true, true, true, true, true, true, false, true, true, false, false, false, false]) rfl (by kernel_rfl) (T_call (al := [(Value.int .i64 1)]) (pre := []) (F := cl b2_ 31 [(Value.int .i64 1), (Value.int .i64 r), (Value.string key), (Value.string en), (Value.int .i64 n), (Value.string val), (Value.bool true)] :: F) rfl rfl cb61 (ordSmall R 1 (by omega) (by omega)) H12_ ?_)
      rintro v20_ p21_ w17_ ⟨rfl, rfl⟩ S19_ H18_
      replace H18_ : Holds w17_ (ro R :: cl b2_ 31 [(Value.int .i64 1), (Value.int .i64 r), (Value.string key), (Value.string en), (Value.int .i64 n), (Value.string val), (Value.bool true)] :: F) := H18_
      have S22_ := Same.trans S16_ S19_
      refine ⟨⟨Holds.rd H18_ 1 rfl, Holds.ro_at H18_ 0 rfl⟩, ?_⟩
      refine A_ready (i := 8) (rs := [11]) (by kernel_rfl) ?_
      refine AllR.cons ?_ ?_
      · skip
        refine A_op (ls' := #[true, true, true, true, true, true, true, true, true, true, true, false, false, false, false]) rfl (by kernel_rfl) (T_s2b rfl Try.underlying9 Try.underlying25 Try.underlying5 H18_ ?_)
        intro b23_ cp24_ w25_ S27_ hc28_ H26_
        have S29_ := Same.trans S22_ S27_
        have H30_ : Holds w25_ (sl 5 1 (Value.slice (some ⟨b23_, 0, none⟩) key.size cp24_) key.size (bytesV (ints key)) :: ro R :: cl b2_ 31 [(Value.int .i64 1), (Value.int .i64 r), (Value.string key), (Value.string en), (Value.int .i64 n), (Value.string val), (Value.bool true)] :: F) := cast2 (P := fun (c__ : List Value) (k__ : Nat) => Holds w25_ (sl 5 1 (Value.slice (some ⟨b23_, 0, none⟩) key.size cp24_) k__ c__ :: ro R :: cl b2_ 31 [(Value.int .i64 1), (Value.int .i64 r), (Value.string key), (Value.string en), (Value.int .i64 n), (Value.string val), (Value.bool true)] :: F)) (byteCells_bytesV _ : byteCells key = bytesV (ints key)) (rfl : key.size = key.size) H26_
        refine ⟨⟨Holds.rd H30_ 2 rfl, Holds.ro_at H30_ 1 rfl⟩, ?_⟩
        refine A_ready (i := 11) (rs := []) (by kernel_rfl) ?_
        refine AllR.cons ?_ AllR.nil
        have H31_ : Holds w25_ (ro R :: sl 5 1 (Value.slice (some ⟨b23_, 0, none⟩) key.size cp24_) key.size (bytesV (ints key)) :: cl b2_ 31 [(Value.int .i64 1), (Value.int .i64 r), (Value.string key), (Value.string en), (Value.int .i64 n), (Value.string val), (Value.bool true)] :: F) := (Holds.bring H30_ 1 rfl)
        refine A_op (ls' := #[true, true, true, true, true, true, true, true, true, true, true, true, false, false, false]) rfl (by kernel_rfl) (T_call (al := [(Value.string en)]) (pre := []) (F := sl 5 1 (Value.slice (some ⟨b23_, 0, none⟩) key.size cp24_) key.size (bytesV (ints key)) :: cl b2_ 31 [(Value.int .i64 1), (Value.int .i64 r), (Value.string key), (Value.string en), (Value.int .i64 n), (Value.string val), (Value.bool true)] :: F) rfl rfl cb62 (bytesOfC R en) H31_ ?_)
        rintro v35_ p36_ w32_ rfl S34_ H33_
        replace H33_ : Holds w32_ (ro R :: sl 5 1 v35_ en.size (bytesV (ints en)) :: sl 5 1 (Value.slice (some ⟨b23_, 0, none⟩) key.size cp24_) key.size (bytesV (ints key)) :: cl b2_ 31 [(Value.int .i64 1), (Value.int .i64 r), (Value.string key), (Value.string en), (Value.int .i64 n), (Value.string val), (Value.bool true)] :: F) := H33_
        have S37_ := Same.trans S29_ S34_
        obtain ⟨-, a38_, cp39_, rfl, hle40_⟩ := Holds.sl_len H33_ 1 rfl
        refine ⟨⟨Holds.rd H33_ 3 rfl, Holds.ro_at H33_ 0 rfl⟩, ?_⟩
        refine A_take 12 (ls' := #[true, true, true, true, true, true, true, true, true, true, true, true, true, false, false]) (v := (Value.agg #[(Value.int .i32 r), (Value.int .i32 1), (Value.slice (some ⟨b23_, 0, none⟩) key.size cp24_), (Value.nilIface), (Value.slice a38_ en.size cp39_)])) rfl (by kernel_rfl) (by kernel_rfl) (by kernel_rfl) (by kernel_rfl) (fun _ _ _ h => h) (fun w hS => by kernel_rfl) ⟨Holds.rd H33_ 3 rfl, Holds.ro_at H33_ 0 rfl⟩ ?_
        refine A_ready (i := 13) (rs := []) (by kernel_rfl) ?_
        refine AllR.cons ?_ AllR.nil
        refine A_op (ls' := #[true, true, true, true, true, true, true, true, true, true, true, true, true, true, false]) rfl (by kernel_rfl) (T_box (v := (Value.agg #[(Value.int .i32 r), (Value.int .i32 1), (Value.slice (some ⟨b23_, 0, none⟩) key.size cp24_), (Value.nilIface), (Value.slice a38_ en.size cp39_)])) rfl H33_ ?_)
        intro b41_ w42_ S44_ H43_
        replace H43_ : Holds w42_ (cl b41_ 106 [(Value.int .i32 r), (Value.int .i32 1), (Value.slice (some ⟨b23_, 0, none⟩) key.size cp24_), (Value.nilIface), (Value.slice a38_ en.size cp39_)] :: ro R :: sl 5 1 (Value.slice a38_ en.size cp39_) en.size (bytesV (ints en)) :: sl 5 1 (Value.slice (some ⟨b23_, 0, none⟩) key.size cp24_) key.size (bytesV (ints key)) :: cl b2_ 31 [(Value.int .i64 1), (Value.int .i64 r), (Value.string key), (Value.string en), (Value.int .i64 n), (Value.string val), (Value.bool true)] :: F) := H43_
        have S45_ := Same.trans S37_ S44_
        refine ⟨⟨Holds.rd H43_ 4 rfl, Holds.ro_at H43_ 1 rfl⟩, ?_⟩
        refine A_take 14 (ls' := #[true, true, true, true, true, true, true, true, true, true, true, true, true, true, true]) (v := (Value.pointer (some ⟨b41_, 0, none⟩))) rfl (by kernel_rfl) (by kernel_rfl) (by kernel_rfl) (by kernel_rfl) (fun _ _ _ h => h) (fun w hS => x_assign rfl) ⟨Holds.rd H43_ 4 rfl, Holds.ro_at H43_ 1 rfl⟩ ?_
        refine A_done (by kernel_rfl) ?_
        refine (X_then (hK7_ _ _ ?_))
        clear hK7_
        refine C_seq (fun K46_ hK46_ => ?_)
        refine C_seq (fun K47_ hK47_ => ?_)
        refine C_reg ?_
        refine S_list (T_val (v := (Value.pointer (some ⟨b2_, 6, none⟩))) (by kernel_rfl) ?_)
        refine S_list (T_val (v := (Value.bool true)) (x_load1 rfl Try.underlying4 rfl ((Holds.rd H43_ 4 rfl) 6 (Value.bool true) rfl)) ?_)
        refine wpList_nil ?_
        refine (X_then (hK47_ _ _ ?_))
        clear hK47_
        refine C_condT rfl ?_
        refine C_seq (fun K48_ hK48_ => ?_)
        refine C_reg ?_
        refine S_list (T_val (v := (Value.pointer (some ⟨b41_, 0, none⟩))) (x_move rfl) ?_)
        refine S_list (T_val (v := (Value.pointer (some ⟨b41_, 0, none⟩))) (x_assign rfl) ?_)
        refine wpList_nil ?_
        refine (X_then (hK48_ _ _ ?_))
        clear hK48_
        refine C_ret (X_thenR ?_)
        refine R_any (v := (Value.pointer (some ⟨b41_, 0, none⟩))) (run_results1 rfl rfl) ?_
        have H49_ : Holds w42_ (ro R :: cl b41_ 106 [(Value.int .i32 r), (Value.int .i32 1), (Value.slice (some ⟨b23_, 0, none⟩) key.size cp24_), (Value.nilIface), (Value.slice a38_ en.size cp39_)] :: F) := (Holds.erase (Holds.erase (Holds.erase (Holds.bring (Holds.bring H43_ 0 rfl) 1 rfl) 2) 2) 2)
        exact ⟨_, [cl b41_ 106 [(Value.int .i32 r), (Value.int .i32 1), (Value.slice (some ⟨b23_, 0, none⟩) key.size cp24_), (Value.nilIface), (Value.slice a38_ en.size cp39_)]], rfl, ⟨b41_, (Value.slice (some ⟨b23_, 0, none⟩) key.size cp24_), (Value.slice a38_ en.size cp39_), rfl, rfl⟩, S45_, H49_⟩
      refine AllR.cons ?_ AllR.nil
      refine A_op (ls' := #[true, true, true, true, true, true, true, true, false, true, true, true, false, false, false]) rfl (by kernel_rfl) (T_call (al := [(Value.string en)]) (pre := []) (F := cl b2_ 31 [(Value.int .i64 1), (Value.int .i64 r), (Value.string key), (Value.string en), (Value.int .i64 n), (Value.string val), (Value.bool true)] :: F) rfl rfl cb62 (bytesOfC R en) H18_ ?_)
      rintro v53_ p54_ w50_ rfl S52_ H51_
      replace H51_ : Holds w50_ (ro R :: sl 5 1 v53_ en.size (bytesV (ints en)) :: cl b2_ 31 [(Value.int .i64 1), (Value.int .i64 r), (Value.string key), (Value.string en), (Value.int .i64 n), (Value.string val), (Value.bool true)] :: F) := H51_
      have S55_ := Same.trans S22_ S52_
      obtain ⟨-, a56_, cp57_, rfl, hle58_⟩ := Holds.sl_len H51_ 1 rfl
      refine ⟨⟨Holds.rd H51_ 2 rfl, Holds.ro_at H51_ 0 rfl⟩, ?_⟩
      refine A_ready (i := 8) (rs := []) (by kernel_rfl) ?_
      refine AllR.cons ?_ AllR.nil
      refine A_op (ls' := #[true, true, true, true, true, true, true, true, true, true, true, true, false, false, false]) rfl (by kernel_rfl) (T_s2b rfl Try.underlying9 Try.underlying25 Try.underlying5 H51_ ?_)
      intro b59_ cp60_ w61_ S63_ hc64_ H62_
      have S65_ := Same.trans S55_ S63_
      have H66_ : Holds w61_ (sl 5 1 (Value.slice (some ⟨b59_, 0, none⟩) key.size cp60_) key.size (bytesV (ints key)) :: ro R :: sl 5 1 (Value.slice a56_ en.size cp57_) en.size (bytesV (ints en)) :: cl b2_ 31 [(Value.int .i64 1), (Value.int .i64 r), (Value.string key), (Value.string en), (Value.int .i64 n), (Value.string val), (Value.bool true)] :: F) := cast2 (P := fun (c__ : List Value) (k__ : Nat) => Holds w61_ (sl 5 1 (Value.slice (some ⟨b59_, 0, none⟩) key.size cp60_) k__ c__ :: ro R :: sl 5 1 (Value.slice a56_ en.size cp57_) en.size (bytesV (ints en)) :: cl b2_ 31 [(Value.int .i64 1), (Value.int .i64 r), (Value.string key), (Value.string en), (Value.int .i64 n), (Value.string val), (Value.bool true)] :: F)) (byteCells_bytesV _ : byteCells key = bytesV (ints key)) (rfl : key.size = key.size) H62_
      refine ⟨⟨Holds.rd H66_ 3 rfl, Holds.ro_at H66_ 1 rfl⟩, ?_⟩
      refine A_take 12 (ls' := #[true, true, true, true, true, true, true, true, true, true, true, true, true, false, false]) (v := (Value.agg #[(Value.int .i32 r), (Value.int .i32 1), (Value.slice (some ⟨b59_, 0, none⟩) key.size cp60_), (Value.nilIface), (Value.slice a56_ en.size cp57_)])) rfl (by kernel_rfl) (by kernel_rfl) (by kernel_rfl) (by kernel_rfl) (fun _ _ _ h => h) (fun w hS => by kernel_rfl) ⟨Holds.rd H66_ 3 rfl, Holds.ro_at H66_ 1 rfl⟩ ?_
      refine A_ready (i := 13) (rs := []) (by kernel_rfl) ?_
      refine AllR.cons ?_ AllR.nil
      refine A_op (ls' := #[true, true, true, true, true, true, true, true, true, true, true, true, true, true, false]) rfl (by kernel_rfl) (T_box (v := (Value.agg #[(Value.int .i32 r), (Value.int .i32 1), (Value.slice (some ⟨b59_, 0, none⟩) key.size cp60_), (Value.nilIface), (Value.slice a56_ en.size cp57_)])) rfl H66_ ?_)
      intro b67_ w68_ S70_ H69_
      replace H69_ : Holds w68_ (cl b67_ 106 [(Value.int .i32 r), (Value.int .i32 1), (Value.slice (some ⟨b59_, 0, none⟩) key.size cp60_), (Value.nilIface), (Value.slice a56_ en.size cp57_)] :: sl 5 1 (Value.slice (some ⟨b59_, 0, none⟩) key.size cp60_) key.size (bytesV (ints key)) :: ro R :: sl 5 1 (Value.slice a56_ en.size cp57_) en.size (bytesV (ints en)) :: cl b2_ 31 [(Value.int .i64 1), (Value.int .i64 r), (Value.string key), (Value.string en), (Value.int .i64 n), (Value.string val), (Value.bool true)] :: F) := H69_
      have S71_ := Same.trans S65_ S70_
      refine ⟨⟨Holds.rd H69_ 4 rfl, Holds.ro_at H69_ 2 rfl⟩, ?_⟩
      refine A_take 14 (ls' := #[true, true, true, true, true, true, true, true, true, true, true, true, true, true, true]) (v := (Value.pointer (some ⟨b67_, 0, none⟩))) rfl (by kernel_rfl) (by kernel_rfl) (by kernel_rfl) (by kernel_rfl) (fun _ _ _ h => h) (fun w hS => x_assign rfl) ⟨Holds.rd H69_ 4 rfl, Holds.ro_at H69_ 2 rfl⟩ ?_
      refine A_done (by kernel_rfl) ?_
      refine (X_then (hK7_ _ _ ?_))
      clear hK7_
      refine C_seq (fun K72_ hK72_ => ?_)
      refine C_seq (fun K73_ hK73_ => ?_)
      refine C_reg ?_
      refine S_list (T_val (v := (Value.pointer (some ⟨b2_, 6, none⟩))) (by kernel_rfl) ?_)
      refine S_list (T_val (v := (Value.bool true)) (x_load1 rfl Try.underlying4 rfl ((Holds.rd H69_ 4 rfl) 6 (Value.bool true) rfl)) ?_)
      refine wpList_nil ?_
      refine (X_then (hK73_ _ _ ?_))
      clear hK73_
      refine C_condT rfl ?_
      refine C_seq (fun K74_ hK74_ => ?_)
      refine C_reg ?_
      refine S_list (T_val (v := (Value.pointer (some ⟨b67_, 0, none⟩))) (x_move rfl) ?_)
      refine S_list (T_val (v := (Value.pointer (some ⟨b67_, 0, none⟩))) (x_assign rfl) ?_)
      refine wpList_nil ?_
      refine (X_then (hK74_ _ _ ?_))
      clear hK74_
      refine C_ret (X_thenR ?_)
      refine R_any (v := (Value.pointer (some ⟨b67_, 0, none⟩))) (run_results1 rfl rfl) ?_
      have H75_ : Holds w68_ (ro R :: cl b67_ 106 [(Value.int .i32 r), (Value.int .i32 1), (Value.slice (some ⟨b59_, 0, none⟩) key.size cp60_), (Value.nilIface), (Value.slice a56_ en.size cp57_)] :: F) := (Holds.erase (Holds.erase (Holds.erase (Holds.bring (Holds.bring H69_ 0 rfl) 2 rfl) 2) 2) 2)
      exact ⟨_, [cl b67_ 106 [(Value.int .i32 r), (Value.int .i32 1), (Value.slice (some ⟨b59_, 0, none⟩) key.size cp60_), (Value.nilIface), (Value.slice a56_ en.size cp57_)]], rfl, ⟨b67_, (Value.slice (some ⟨b59_, 0, none⟩) key.size cp60_), (Value.slice a56_ en.size cp57_), rfl, rfl⟩, S71_, H75_⟩
    refine AllR.cons ?_ AllR.nil
    refine A_op (ls' := #[true, true, true, true, true, false, true, true, true, true, true, false, false, false, false]) rfl (by kernel_rfl) (T_s2b rfl Try.underlying9 Try.underlying25 Try.underlying5 H12_ ?_)
    intro b76_ cp77_ w78_ S80_ hc81_ H79_
    have S82_ := Same.trans S16_ S80_
    have H83_ : Holds w78_ (sl 5 1 (Value.slice (some ⟨b76_, 0, none⟩) key.size cp77_) key.size (bytesV (ints key)) :: ro R :: cl b2_ 31 [(Value.int .i64 1), (Value.int .i64 r), (Value.string key), (Value.string en), (Value.int .i64 n), (Value.string val), (Value.bool true)] :: F) := cast2 (P := fun (c__ : List Value) (k__ : Nat) => Holds w78_ (sl 5 1 (Value.slice (some ⟨b76_, 0, none⟩) key.size cp77_) k__ c__ :: ro R :: cl b2_ 31 [(Value.int .i64 1), (Value.int .i64 r), (Value.string key), (Value.string en), (Value.int .i64 n), (Value.string val), (Value.bool true)] :: F)) (byteCells_bytesV _ : byteCells key = bytesV (ints key)) (rfl : key.size = key.size) H79_
    refine ⟨⟨Holds.rd H83_ 2 rfl, Holds.ro_at H83_ 1 rfl⟩, ?_⟩
    refine A_ready (i := 5) (rs := []) (by kernel_rfl) ?_
    refine AllR.cons ?_ AllR.nil
    have H84_ : Holds w78_ (ro R :: sl 5 1 (Value.slice (some ⟨b76_, 0, none⟩) key.size cp77_) key.size (bytesV (ints key)) :: cl b2_ 31 [(Value.int .i64 1), (Value.int .i64 r), (Value.string key), (Value.string en), (Value.int .i64 n), (Value.string val), (Value.bool true)] :: F) := (Holds.bring H83_ 1 rfl)
    refine A_op (ls' := #[true, true, true, true, true, true, true, true, true, true, true, false, false, false, false]) rfl (by kernel_rfl) (T_call (al := [(Value.int .i64 1)]) (pre := []) (F := sl 5 1 (Value.slice (some ⟨b76_, 0, none⟩) key.size cp77_) key.size (bytesV (ints key)) :: cl b2_ 31 [(Value.int .i64 1), (Value.int .i64 r), (Value.string key), (Value.string en), (Value.int .i64 n), (Value.string val), (Value.bool true)] :: F) rfl rfl cb61 (ordSmall R 1 (by omega) (by omega)) H84_ ?_)
    rintro v88_ p89_ w85_ ⟨rfl, rfl⟩ S87_ H86_
    replace H86_ : Holds w85_ (ro R :: sl 5 1 (Value.slice (some ⟨b76_, 0, none⟩) key.size cp77_) key.size (bytesV (ints key)) :: cl b2_ 31 [(Value.int .i64 1), (Value.int .i64 r), (Value.string key), (Value.string en), (Value.int .i64 n), (Value.string val), (Value.bool true)] :: F) := H86_
    have S90_ := Same.trans S82_ S87_
    refine ⟨⟨Holds.rd H86_ 2 rfl, Holds.ro_at H86_ 0 rfl⟩, ?_⟩
    refine A_ready (i := 11) (rs := []) (by kernel_rfl) ?_
    refine AllR.cons ?_ AllR.nil
    refine A_op (ls' := #[true, true, true, true, true, true, true, true, true, true, true, true, false, false, false]) rfl (by kernel_rfl) (T_call (al := [(Value.string en)]) (pre := []) (F := sl 5 1 (Value.slice (some ⟨b76_, 0, none⟩) key.size cp77_) key.size (bytesV (ints key)) :: cl b2_ 31 [(Value.int .i64 1), (Value.int .i64 r), (Value.string key), (Value.string en), (Value.int .i64 n), (Value.string val), (Value.bool true)] :: F) rfl rfl cb62 (bytesOfC R en) H86_ ?_)
    rintro v94_ p95_ w91_ rfl S93_ H92_
    replace H92_ : Holds w91_ (ro R :: sl 5 1 v94_ en.size (bytesV (ints en)) :: sl 5 1 (Value.slice (some ⟨b76_, 0, none⟩) key.size cp77_) key.size (bytesV (ints key)) :: cl b2_ 31 [(Value.int .i64 1), (Value.int .i64 r), (Value.string key), (Value.string en), (Value.int .i64 n), (Value.string val), (Value.bool true)] :: F) := H92_
    have S96_ := Same.trans S90_ S93_
    obtain ⟨-, a97_, cp98_, rfl, hle99_⟩ := Holds.sl_len H92_ 1 rfl
    refine ⟨⟨Holds.rd H92_ 3 rfl, Holds.ro_at H92_ 0 rfl⟩, ?_⟩
    refine A_take 12 (ls' := #[true, true, true, true, true, true, true, true, true, true, true, true, true, false, false]) (v := (Value.agg #[(Value.int .i32 r), (Value.int .i32 1), (Value.slice (some ⟨b76_, 0, none⟩) key.size cp77_), (Value.nilIface), (Value.slice a97_ en.size cp98_)])) rfl (by kernel_rfl) (by kernel_rfl) (by kernel_rfl) (by kernel_rfl) (fun _ _ _ h => h) (fun w hS => by kernel_rfl) ⟨Holds.rd H92_ 3 rfl, Holds.ro_at H92_ 0 rfl⟩ ?_
    refine A_ready (i := 13) (rs := []) (by kernel_rfl) ?_
    refine AllR.cons ?_ AllR.nil
    refine A_op (ls' := #[true, true, true, true, true, true, true, true, true, true, true, true, true, true, false]) rfl (by kernel_rfl) (T_box (v := (Value.agg #[(Value.int .i32 r), (Value.int .i32 1), (Value.slice (some ⟨b76_, 0, none⟩) key.size cp77_), (Value.nilIface), (Value.slice a97_ en.size cp98_)])) rfl H92_ ?_)
    intro b100_ w101_ S103_ H102_
    replace H102_ : Holds w101_ (cl b100_ 106 [(Value.int .i32 r), (Value.int .i32 1), (Value.slice (some ⟨b76_, 0, none⟩) key.size cp77_), (Value.nilIface), (Value.slice a97_ en.size cp98_)] :: ro R :: sl 5 1 (Value.slice a97_ en.size cp98_) en.size (bytesV (ints en)) :: sl 5 1 (Value.slice (some ⟨b76_, 0, none⟩) key.size cp77_) key.size (bytesV (ints key)) :: cl b2_ 31 [(Value.int .i64 1), (Value.int .i64 r), (Value.string key), (Value.string en), (Value.int .i64 n), (Value.string val), (Value.bool true)] :: F) := H102_
    have S104_ := Same.trans S96_ S103_
    refine ⟨⟨Holds.rd H102_ 4 rfl, Holds.ro_at H102_ 1 rfl⟩, ?_⟩
    refine A_take 14 (ls' := #[true, true, true, true, true, true, true, true, true, true, true, true, true, true, true]) (v := (Value.pointer (some ⟨b100_, 0, none⟩))) rfl (by kernel_rfl) (by kernel_rfl) (by kernel_rfl) (by kernel_rfl) (fun _ _ _ h => h) (fun w hS => x_assign rfl) ⟨Holds.rd H102_ 4 rfl, Holds.ro_at H102_ 1 rfl⟩ ?_
    refine A_done (by kernel_rfl) ?_
    refine (X_then (hK7_ _ _ ?_))
    clear hK7_
    refine C_seq (fun K105_ hK105_ => ?_)
    refine C_seq (fun K106_ hK106_ => ?_)
    refine C_reg ?_
    refine S_list (T_val (v := (Value.pointer (some ⟨b2_, 6, none⟩))) (by kernel_rfl) ?_)
    refine S_list (T_val (v := (Value.bool true)) (x_load1 rfl Try.underlying4 rfl ((Holds.rd H102_ 4 rfl) 6 (Value.bool true) rfl)) ?_)
    refine wpList_nil ?_
    refine (X_then (hK106_ _ _ ?_))
    clear hK106_
    refine C_condT rfl ?_
    refine C_seq (fun K107_ hK107_ => ?_)
    refine C_reg ?_
    refine S_list (T_val (v := (Value.pointer (some ⟨b100_, 0, none⟩))) (x_move rfl) ?_)
    refine S_list (T_val (v := (Value.pointer (some ⟨b100_, 0, none⟩))) (x_assign rfl) ?_)
    refine wpList_nil ?_
    refine (X_then (hK107_ _ _ ?_))
    clear hK107_
    refine C_ret (X_thenR ?_)
    refine R_any (v := (Value.pointer (some ⟨b100_, 0, none⟩))) (run_results1 rfl rfl) ?_
    have H108_ : Holds w101_ (ro R :: cl b100_ 106 [(Value.int .i32 r), (Value.int .i32 1), (Value.slice (some ⟨b76_, 0, none⟩) key.size cp77_), (Value.nilIface), (Value.slice a97_ en.size cp98_)] :: F) := (Holds.erase (Holds.erase (Holds.erase (Holds.bring (Holds.bring H102_ 0 rfl) 1 rfl) 2) 2) 2)
    exact ⟨_, [cl b100_ 106 [(Value.int .i32 r), (Value.int .i32 1), (Value.slice (some ⟨b76_, 0, none⟩) key.size cp77_), (Value.nilIface), (Value.slice a97_ en.size cp98_)]], rfl, ⟨b100_, (Value.slice (some ⟨b76_, 0, none⟩) key.size cp77_), (Value.slice a97_ en.size cp98_), rfl, rfl⟩, S104_, H108_⟩
  refine AllR.cons ?_ AllR.nil
  refine A_op (ls' := #[true, true, false, true, true, false, true, true, true, true, true, false, false, false, false]) rfl (by kernel_rfl) (T_s2b rfl Try.underlying9 Try.underlying25 Try.underlying5 H9_ ?_)
  intro b109_ cp110_ w111_ S113_ hc114_ H112_
  have S115_ := Same.trans (Same.trans S6_ (Same.drew _)) S113_
  have H116_ : Holds w111_ (sl 5 1 (Value.slice (some ⟨b109_, 0, none⟩) key.size cp110_) key.size (bytesV (ints key)) :: cl b2_ 31 [(Value.int .i64 1), (Value.int .i64 r), (Value.string key), (Value.string en), (Value.int .i64 n), (Value.string val), (Value.bool true)] :: ro R :: F) := cast2 (P := fun (c__ : List Value) (k__ : Nat) => Holds w111_ (sl 5 1 (Value.slice (some ⟨b109_, 0, none⟩) key.size cp110_) k__ c__ :: cl b2_ 31 [(Value.int .i64 1), (Value.int .i64 r), (Value.string key), (Value.string en), (Value.int .i64 n), (Value.string val), (Value.bool true)] :: ro R :: F)) (byteCells_bytesV _ : byteCells key = bytesV (ints key)) (rfl : key.size = key.size) H112_
  refine ⟨⟨Holds.rd H116_ 1 rfl, Holds.ro_at H116_ 2 rfl⟩, ?_⟩
  refine A_ready (i := 2) (rs := []) (by kernel_rfl) ?_
  refine AllR.cons ?_ AllR.nil
  have H117_ : Holds w111_ (ro R :: sl 5 1 (Value.slice (some ⟨b109_, 0, none⟩) key.size cp110_) key.size (bytesV (ints key)) :: cl b2_ 31 [(Value.int .i64 1), (Value.int .i64 r), (Value.string key), (Value.string en), (Value.int .i64 n), (Value.string val), (Value.bool true)] :: F) := (Holds.bring H116_ 2 rfl)
  refine A_op (ls' := #[true, true, true, true, true, false, true, true, true, true, true, false, false, false, false]) rfl (by kernel_rfl) (T_call (al := [(Value.int .i64 r)]) (pre := []) (F := sl 5 1 (Value.slice (some ⟨b109_, 0, none⟩) key.size cp110_) key.size (bytesV (ints key)) :: cl b2_ 31 [(Value.int .i64 1), (Value.int .i64 r), (Value.string key), (Value.string en), (Value.int .i64 n), (Value.string val), (Value.bool true)] :: F) rfl rfl cb61 (ordSmall R r (by omega) (by omega)) H117_ ?_)
  rintro v121_ p122_ w118_ ⟨rfl, rfl⟩ S120_ H119_
  replace H119_ : Holds w118_ (ro R :: sl 5 1 (Value.slice (some ⟨b109_, 0, none⟩) key.size cp110_) key.size (bytesV (ints key)) :: cl b2_ 31 [(Value.int .i64 1), (Value.int .i64 r), (Value.string key), (Value.string en), (Value.int .i64 n), (Value.string val), (Value.bool true)] :: F) := H119_
  have S123_ := Same.trans S115_ S120_
  refine ⟨⟨Holds.rd H119_ 2 rfl, Holds.ro_at H119_ 0 rfl⟩, ?_⟩
  refine A_ready (i := 5) (rs := []) (by kernel_rfl) ?_
  refine AllR.cons ?_ AllR.nil
  refine A_op (ls' := #[true, true, true, true, true, true, true, true, true, true, true, false, false, false, false]) rfl (by kernel_rfl) (T_call (al := [(Value.int .i64 1)]) (pre := []) (F := sl 5 1 (Value.slice (some ⟨b109_, 0, none⟩) key.size cp110_) key.size (bytesV (ints key)) :: cl b2_ 31 [(Value.int .i64 1), (Value.int .i64 r), (Value.string key), (Value.string en), (Value.int .i64 n), (Value.string val), (Value.bool true)] :: F) rfl rfl cb61 (ordSmall R 1 (by omega) (by omega)) H119_ ?_)
  rintro v127_ p128_ w124_ ⟨rfl, rfl⟩ S126_ H125_
  replace H125_ : Holds w124_ (ro R :: sl 5 1 (Value.slice (some ⟨b109_, 0, none⟩) key.size cp110_) key.size (bytesV (ints key)) :: cl b2_ 31 [(Value.int .i64 1), (Value.int .i64 r), (Value.string key), (Value.string en), (Value.int .i64 n), (Value.string val), (Value.bool true)] :: F) := H125_
  have S129_ := Same.trans S123_ S126_
  refine ⟨⟨Holds.rd H125_ 2 rfl, Holds.ro_at H125_ 0 rfl⟩, ?_⟩
  refine A_ready (i := 11) (rs := []) (by kernel_rfl) ?_
  refine AllR.cons ?_ AllR.nil
  refine A_op (ls' := #[true, true, true, true, true, true, true, true, true, true, true, true, false, false, false]) rfl (by kernel_rfl) (T_call (al := [(Value.string en)]) (pre := []) (F := sl 5 1 (Value.slice (some ⟨b109_, 0, none⟩) key.size cp110_) key.size (bytesV (ints key)) :: cl b2_ 31 [(Value.int .i64 1), (Value.int .i64 r), (Value.string key), (Value.string en), (Value.int .i64 n), (Value.string val), (Value.bool true)] :: F) rfl rfl cb62 (bytesOfC R en) H125_ ?_)
  rintro v133_ p134_ w130_ rfl S132_ H131_
  replace H131_ : Holds w130_ (ro R :: sl 5 1 v133_ en.size (bytesV (ints en)) :: sl 5 1 (Value.slice (some ⟨b109_, 0, none⟩) key.size cp110_) key.size (bytesV (ints key)) :: cl b2_ 31 [(Value.int .i64 1), (Value.int .i64 r), (Value.string key), (Value.string en), (Value.int .i64 n), (Value.string val), (Value.bool true)] :: F) := H131_
  have S135_ := Same.trans S129_ S132_
  obtain ⟨-, a136_, cp137_, rfl, hle138_⟩ := Holds.sl_len H131_ 1 rfl
  refine ⟨⟨Holds.rd H131_ 3 rfl, Holds.ro_at H131_ 0 rfl⟩, ?_⟩
  refine A_take 12 (ls' := #[true, true, true, true, true, true, true, true, true, true, true, true, true, false, false]) (v := (Value.agg #[(Value.int .i32 r), (Value.int .i32 1), (Value.slice (some ⟨b109_, 0, none⟩) key.size cp110_), (Value.nilIface), (Value.slice a136_ en.size cp137_)])) rfl (by kernel_rfl) (by kernel_rfl) (by kernel_rfl) (by kernel_rfl) (fun _ _ _ h => h) (fun w hS => by kernel_rfl) ⟨Holds.rd H131_ 3 rfl, Holds.ro_at H131_ 0 rfl⟩ ?_
  refine A_ready (i := 13) (rs := []) (by kernel_rfl) ?_
  refine AllR.cons ?_ AllR.nil
  refine A_op (ls' := #[true, true, true, true, true, true, true, true, true, true, true, true, true, true, false]) rfl (by kernel_rfl) (T_box (v := (Value.agg #[(Value.int .i32 r), (Value.int .i32 1), (Value.slice (some ⟨b109_, 0, none⟩) key.size cp110_), (Value.nilIface), (Value.slice a136_ en.size cp137_)])) rfl H131_ ?_)
  intro b139_ w140_ S142_ H141_
  replace H141_ : Holds w140_ (cl b139_ 106 [(Value.int .i32 r), (Value.int .i32 1), (Value.slice (some ⟨b109_, 0, none⟩) key.size cp110_), (Value.nilIface), (Value.slice a136_ en.size cp137_)] :: ro R :: sl 5 1 (Value.slice a136_ en.size cp137_) en.size (bytesV (ints en)) :: sl 5 1 (Value.slice (some ⟨b109_, 0, none⟩) key.size cp110_) key.size (bytesV (ints key)) :: cl b2_ 31 [(Value.int .i64 1), (Value.int .i64 r), (Value.string key), (Value.string en), (Value.int .i64 n), (Value.string val), (Value.bool true)] :: F) := H141_
  have S143_ := Same.trans S135_ S142_
  refine ⟨⟨Holds.rd H141_ 4 rfl, Holds.ro_at H141_ 1 rfl⟩, ?_⟩
  refine A_take 14 (ls' := #[true, true, true, true, true, true, true, true, true, true, true, true, true, true, true]) (v := (Value.pointer (some ⟨b139_, 0, none⟩))) rfl (by kernel_rfl) (by kernel_rfl) (by kernel_rfl) (by kernel_rfl) (fun _ _ _ h => h) (fun w hS => x_assign rfl) ⟨Holds.rd H141_ 4 rfl, Holds.ro_at H141_ 1 rfl⟩ ?_
  refine A_done (by kernel_rfl) ?_
  refine (X_then (hK7_ _ _ ?_))
  clear hK7_
  refine C_seq (fun K144_ hK144_ => ?_)
  refine C_seq (fun K145_ hK145_ => ?_)
  refine C_reg ?_
  refine S_list (T_val (v := (Value.pointer (some ⟨b2_, 6, none⟩))) (by kernel_rfl) ?_)
  refine S_list (T_val (v := (Value.bool true)) (x_load1 rfl Try.underlying4 rfl ((Holds.rd H141_ 4 rfl) 6 (Value.bool true) rfl)) ?_)
  refine wpList_nil ?_
  refine (X_then (hK145_ _ _ ?_))
  clear hK145_
  refine C_condT rfl ?_
  refine C_seq (fun K146_ hK146_ => ?_)
  refine C_reg ?_
  refine S_list (T_val (v := (Value.pointer (some ⟨b139_, 0, none⟩))) (x_move rfl) ?_)
  refine S_list (T_val (v := (Value.pointer (some ⟨b139_, 0, none⟩))) (x_assign rfl) ?_)
  refine wpList_nil ?_
  refine (X_then (hK146_ _ _ ?_))
  clear hK146_
  refine C_ret (X_thenR ?_)
  refine R_any (v := (Value.pointer (some ⟨b139_, 0, none⟩))) (run_results1 rfl rfl) ?_
  have H147_ : Holds w140_ (ro R :: cl b139_ 106 [(Value.int .i32 r), (Value.int .i32 1), (Value.slice (some ⟨b109_, 0, none⟩) key.size cp110_), (Value.nilIface), (Value.slice a136_ en.size cp137_)] :: F) := (Holds.erase (Holds.erase (Holds.erase (Holds.bring (Holds.bring H141_ 0 rfl) 1 rfl) 2) 2) 2)
  exact ⟨_, [cl b139_ 106 [(Value.int .i32 r), (Value.int .i32 1), (Value.slice (some ⟨b109_, 0, none⟩) key.size cp110_), (Value.nilIface), (Value.slice a136_ en.size cp137_)]], rfl, ⟨b139_, (Value.slice (some ⟨b109_, 0, none⟩) key.size cp110_), (Value.slice a136_ en.size cp137_), rfl, rfl⟩, S143_, H147_⟩

set_option maxHeartbeats 400000 in
theorem cmpIn1f (R : HP) (r : Int) (key en : ByteArray) (n : Int) (val : ByteArray) (h0 : 0 ≤ r) (h1 : r ≤ 3) :
    Tri Try.prog 36 #[(Value.agg #[(Value.int .i64 1), (Value.int .i64 r), (Value.string key), (Value.string en), (Value.int .i64 n), (Value.string val), (Value.bool false)])] R [] (fun v post => ∃ c u K E, v = .pointer (some ⟨c, 0, none⟩) ∧ post = [cl c 106 [.int .i32 r, .int .i32 1, K, .iface 110 (.pointer (some ⟨u, 0, none⟩)), E], cl u 112 [.int .i64 n]]) := by
  refine Tri.into (n := 75) (al := [(Value.agg #[(Value.int .i64 1), (Value.int .i64 r), (Value.string key), (Value.string en), (Value.int .i64 n), (Value.string val), (Value.bool false)])]) Try.func36 rfl Try.ntmps36 rfl rfl fun w F H => ?_
  replace H : Holds w (ro R :: F) := H
  refine C_seq (fun K1_ hK1_ => ?_)
  refine C_reg ?_
  refine S_list (T_box (v := (Value.agg #[(Value.int .i64 1), (Value.int .i64 r), (Value.string key), (Value.string en), (Value.int .i64 n), (Value.string val), (Value.bool false)])) rfl H ?_)
  intro b2_ w3_ S5_ H4_
  replace H4_ : Holds w3_ (cl b2_ 31 [(Value.int .i64 1), (Value.int .i64 r), (Value.string key), (Value.string en), (Value.int .i64 n), (Value.string val), (Value.bool false)] :: ro R :: F) := H4_
  have S6_ := Same.trans (Same.refl w) S5_
  refine S_list (T_val (v := (Value.pointer none)) (x_assign rfl) ?_)
  refine wpList_nil ?_
  refine (X_then (hK1_ _ _ ?_))
  clear hK1_
  refine C_seq (fun K7_ hK7_ => ?_)
  refine A_start (S := fun w => Rd b2_ [(Value.int .i64 1), (Value.int .i64 r), (Value.string key), (Value.string en), (Value.int .i64 n), (Value.string val), (Value.bool false)] w ∧ Sub R (hp w)) (N := 15) foll rfl rfl ?_
  have H9_ : Holds w3_.drew (cl b2_ 31 [(Value.int .i64 1), (Value.int .i64 r), (Value.string key), (Value.string en), (Value.int .i64 n), (Value.string val), (Value.bool false)] :: ro R :: F) := H4_
  refine A_take 0 (ls' := #[true, false, false, false, false, false, false, false, false, false, false, false, false, false, false]) (v := (Value.pointer (some ⟨b2_, 1, none⟩))) rfl (by kernel_rfl) (by kernel_rfl) (by kernel_rfl) (by kernel_rfl) (fun _ _ _ h => h) (fun w hS => by kernel_rfl) ⟨Holds.rd H9_ 0 rfl, Holds.ro_at H9_ 1 rfl⟩ ?_
  refine A_take 1 (ls' := #[true, true, false, false, false, false, false, false, false, false, false, false, false, false, false]) (v := (Value.int .i64 r)) rfl (by kernel_rfl) (by kernel_rfl) (by kernel_rfl) (by kernel_rfl) (fun _ _ _ h => h) (fun w hS => x_load1 rfl Try.underlying3 rfl (hS.1 1 (Value.int .i64 r) rfl)) ⟨Holds.rd H9_ 0 rfl, Holds.ro_at H9_ 1 rfl⟩ ?_
  refine A_take 3 (ls' := #[true, true, false, true, false, false, false, false, false, false, false, false, false, false, false]) (v := (Value.pointer (some ⟨b2_, 0, none⟩))) rfl (by kernel_rfl) (by kernel_rfl) (by kernel_rfl) (by kernel_rfl) (fun _ _ _ h => h) (fun w hS => by kernel_rfl) ⟨Holds.rd H9_ 0 rfl, Holds.ro_at H9_ 1 rfl⟩ ?_
  refine A_take 4 (ls' := #[true, true, false, true, true, false, false, false, false, false, false, false, false, false, false]) (v := (Value.int .i64 1)) rfl (by kernel_rfl) (by kernel_rfl) (by kernel_rfl) (by kernel_rfl) (fun _ _ _ h => h) (fun w hS => x_load1 rfl Try.underlying3 rfl (hS.1 0 (Value.int .i64 1) rfl)) ⟨Holds.rd H9_ 0 rfl, Holds.ro_at H9_ 1 rfl⟩ ?_
  refine A_take 6 (ls' := #[true, true, false, true, true, false, true, false, false, false, false, false, false, false, false]) (v := (Value.pointer (some ⟨b2_, 2, none⟩))) rfl (by kernel_rfl) (by kernel_rfl) (by kernel_rfl) (by kernel_rfl) (fun _ _ _ h => h) (fun w hS => by kernel_rfl) ⟨Holds.rd H9_ 0 rfl, Holds.ro_at H9_ 1 rfl⟩ ?_
  refine A_take 7 (ls' := #[true, true, false, true, true, false, true, true, false, false, false, false, false, false, false]) (v := (Value.string key)) rfl (by kernel_rfl) (by kernel_rfl) (by kernel_rfl) (by kernel_rfl) (fun _ _ _ h => h) (fun w hS => x_load1 rfl Try.underlying9 rfl (hS.1 2 (Value.string key) rfl)) ⟨Holds.rd H9_ 0 rfl, Holds.ro_at H9_ 1 rfl⟩ ?_
  refine A_take 9 (ls' := #[true, true, false, true, true, false, true, true, false, true, false, false, false, false, false]) (v := (Value.pointer (some ⟨b2_, 3, none⟩))) rfl (by kernel_rfl) (by kernel_rfl) (by kernel_rfl) (by kernel_rfl) (fun _ _ _ h => h) (fun w hS => by kernel_rfl) ⟨Holds.rd H9_ 0 rfl, Holds.ro_at H9_ 1 rfl⟩ ?_
  refine A_take 10 (ls' := #[true, true, false, true, true, false, true, true, false, true, true, false, false, false, false]) (v := (Value.string en)) rfl (by kernel_rfl) (by kernel_rfl) (by kernel_rfl) (by kernel_rfl) (fun _ _ _ h => h) (fun w hS => x_load1 rfl Try.underlying9 rfl (hS.1 3 (Value.string en) rfl)) ⟨Holds.rd H9_ 0 rfl, Holds.ro_at H9_ 1 rfl⟩ ?_
  refine A_ready (i := 2) (rs := [8]) (by kernel_rfl) ?_
  refine AllR.cons ?_ ?_
  · skip
    have H10_ : Holds w3_.drew (ro R :: cl b2_ 31 [(Value.int .i64 1), (Value.int .i64 r), (Value.string key), (Value.string en), (Value.int .i64 n), (Value.string val), (Value.bool false)] :: F) := (Holds.bring H9_ 1 rfl)
    refine A_op (ls' := #[true, true, true, true, true, false, true, true, false, true, true, false, false, false, false]) rfl (by kernel_rfl) (T_call (al := [(Value.int .i64 r)]) (pre := []) (F := cl b2_ 31 [(Value.int .i64 1), (Value.int .i64 r), (Value.string key), (Value.string en), (Value.int .i64 n), (Value.string val), (Value.bool false)] :: F) rfl rfl cb61 (ordSmall R r (by omega) (by omega)) H10_ ?_)
    rintro v14_ p15_ w11_ ⟨rfl, rfl⟩ S13_ H12_
    replace H12_ : Holds w11_ (ro R :: cl b2_ 31 [(Value.int .i64 1), (Value.int .i64 r), (Value.string key), (Value.string en), (Value.int .i64 n), (Value.string val), (Value.bool false)] :: F) := H12_
    have S16_ := Same.trans (Same.trans S6_ (Same.drew _)) S13_
    refine ⟨⟨Holds.rd H12_ 1 rfl, Holds.ro_at H12_ 0 rfl⟩, ?_⟩
    refine A_ready (i := 5) (rs := [8]) (by kernel_rfl) ?_
    refine AllR.cons ?_ ?_
    · skip
      refine A_op (ls' := #[true, true, true, true, true, true, true, true, false, true, true, false, false, false, false]) rfl (by kernel_rfl) (T_call (al := [(Value.int .i64 1)]) (pre := []) (F := cl b2_ 31 [(Value.int .i64 1), (Value.int .i64 r), (Value.string key), (Value.string en), (Value.int .i64 n), (Value.string val), (Value.bool false)] :: F) rfl rfl cb61 (ordSmall R 1 (by omega) (by omega)) H12_ ?_)
      rintro v20_ p21_ w17_ ⟨rfl, rfl⟩ S19_ H18_
      replace H18_ : Holds w17_ (ro R :: cl b2_ 31 [(Value.int .i64 1), (Value.int .i64 r), (Value.string key), (Value.string en), (Value.int .i64 n), (Value.string val), (Value.bool false)] :: F) := H18_
      have S22_ := Same.trans S16_ S19_
      refine ⟨⟨Holds.rd H18_ 1 rfl, Holds.ro_at H18_ 0 rfl⟩, ?_⟩
      refine A_ready (i := 8) (rs := [11]) (by kernel_rfl) ?_
      refine AllR.cons ?_ ?_
      · skip
        refine A_op (ls' := #[true, true, true, true, true, true, true, true, true, true, true, false, false, false, false]) rfl (by kernel_rfl) (T_s2b rfl Try.underlying9 Try.underlying25 Try.underlying5 H18_ ?_)
        intro b23_ cp24_ w25_ S27_ hc28_ H26_
        have S29_ := Same.trans S22_ S27_
        have H30_ : Holds w25_ (sl 5 1 (Value.slice (some ⟨b23_, 0, none⟩) key.size cp24_) key.size (bytesV (ints key)) :: ro R :: cl b2_ 31 [(Value.int .i64 1), (Value.int .i64 r), (Value.string key), (Value.string en), (Value.int .i64 n), (Value.string val), (Value.bool false)] :: F) := cast2 (P := fun (c__ : List Value) (k__ : Nat) => Holds w25_ (sl 5 1 (Value.slice (some ⟨b23_, 0, none⟩) key.size cp24_) k__ c__ :: ro R :: cl b2_ 31 [(Value.int .i64 1), (Value.int .i64 r), (Value.string key), (Value.string en), (Value.int .i64 n), (Value.string val), (Value.bool false)] :: F)) (byteCells_bytesV _ : byteCells key = bytesV (ints key)) (rfl : key.size = key.size) H26_
        refine ⟨⟨Holds.rd H30_ 2 rfl, Holds.ro_at H30_ 1 rfl⟩, ?_⟩
        refine A_ready (i := 11) (rs := []) (by kernel_rfl) ?_
        refine AllR.cons ?_ AllR.nil
        have H31_ : Holds w25_ (ro R :: sl 5 1 (Value.slice (some ⟨b23_, 0, none⟩) key.size cp24_) key.size (bytesV (ints key)) :: cl b2_ 31 [(Value.int .i64 1), (Value.int .i64 r), (Value.string key), (Value.string en), (Value.int .i64 n), (Value.string val), (Value.bool false)] :: F) := (Holds.bring H30_ 1 rfl)
        refine A_op (ls' := #[true, true, true, true, true, true, true, true, true, true, true, true, false, false, false]) rfl (by kernel_rfl) (T_call (al := [(Value.string en)]) (pre := []) (F := sl 5 1 (Value.slice (some ⟨b23_, 0, none⟩) key.size cp24_) key.size (bytesV (ints key)) :: cl b2_ 31 [(Value.int .i64 1), (Value.int .i64 r), (Value.string key), (Value.string en), (Value.int .i64 n), (Value.string val), (Value.bool false)] :: F) rfl rfl cb62 (bytesOfC R en) H31_ ?_)
        rintro v35_ p36_ w32_ rfl S34_ H33_
        replace H33_ : Holds w32_ (ro R :: sl 5 1 v35_ en.size (bytesV (ints en)) :: sl 5 1 (Value.slice (some ⟨b23_, 0, none⟩) key.size cp24_) key.size (bytesV (ints key)) :: cl b2_ 31 [(Value.int .i64 1), (Value.int .i64 r), (Value.string key), (Value.string en), (Value.int .i64 n), (Value.string val), (Value.bool false)] :: F) := H33_
        have S37_ := Same.trans S29_ S34_
        obtain ⟨-, a38_, cp39_, rfl, hle40_⟩ := Holds.sl_len H33_ 1 rfl
        refine ⟨⟨Holds.rd H33_ 3 rfl, Holds.ro_at H33_ 0 rfl⟩, ?_⟩
        refine A_take 12 (ls' := #[true, true, true, true, true, true, true, true, true, true, true, true, true, false, false]) (v := (Value.agg #[(Value.int .i32 r), (Value.int .i32 1), (Value.slice (some ⟨b23_, 0, none⟩) key.size cp24_), (Value.nilIface), (Value.slice a38_ en.size cp39_)])) rfl (by kernel_rfl) (by kernel_rfl) (by kernel_rfl) (by kernel_rfl) (fun _ _ _ h => h) (fun w hS => by kernel_rfl) ⟨Holds.rd H33_ 3 rfl, Holds.ro_at H33_ 0 rfl⟩ ?_
        refine A_ready (i := 13) (rs := []) (by kernel_rfl) ?_
        refine AllR.cons ?_ AllR.nil
        refine A_op (ls' := #[true, true, true, true, true, true, true, true, true, true, true, true, true, true, false]) rfl (by kernel_rfl) (T_box (v := (Value.agg #[(Value.int .i32 r), (Value.int .i32 1), (Value.slice (some ⟨b23_, 0, none⟩) key.size cp24_), (Value.nilIface), (Value.slice a38_ en.size cp39_)])) rfl H33_ ?_)
        intro b41_ w42_ S44_ H43_
        replace H43_ : Holds w42_ (cl b41_ 106 [(Value.int .i32 r), (Value.int .i32 1), (Value.slice (some ⟨b23_, 0, none⟩) key.size cp24_), (Value.nilIface), (Value.slice a38_ en.size cp39_)] :: ro R :: sl 5 1 (Value.slice a38_ en.size cp39_) en.size (bytesV (ints en)) :: sl 5 1 (Value.slice (some ⟨b23_, 0, none⟩) key.size cp24_) key.size (bytesV (ints key)) :: cl b2_ 31 [(Value.int .i64 1), (Value.int .i64 r), (Value.string key), (Value.string en), (Value.int .i64 n), (Value.string val), (Value.bool false)] :: F) := H43_
        have S45_ := Same.trans S37_ S44_
        refine ⟨⟨Holds.rd H43_ 4 rfl, Holds.ro_at H43_ 1 rfl⟩, ?_⟩
        refine A_take 14 (ls' := #[true, true, true, true, true, true, true, true, true, true, true, true, true, true, true]) (v := (Value.pointer (some ⟨b41_, 0, none⟩))) rfl (by kernel_rfl) (by kernel_rfl) (by kernel_rfl) (by kernel_rfl) (fun _ _ _ h => h) (fun w hS => x_assign rfl) ⟨Holds.rd H43_ 4 rfl, Holds.ro_at H43_ 1 rfl⟩ ?_
        refine A_done (by kernel_rfl) ?_
        refine (X_then (hK7_ _ _ ?_))
        clear hK7_
        refine C_seq (fun K46_ hK46_ => ?_)
        refine C_seq (fun K47_ hK47_ => ?_)
        refine C_reg ?_
        refine S_list (T_val (v := (Value.pointer (some ⟨b2_, 6, none⟩))) (by kernel_rfl) ?_)
        refine S_list (T_val (v := (Value.bool false)) (x_load1 rfl Try.underlying4 rfl ((Holds.rd H43_ 4 rfl) 6 (Value.bool false) rfl)) ?_)
        refine wpList_nil ?_
        refine (X_then (hK47_ _ _ ?_))
        clear hK47_
        refine C_condF rfl ?_
        refine C_skip (X_then (hK46_ _ _ ?_))
        clear hK46_
        refine C_seq (fun K48_ hK48_ => ?_)
        refine C_seq (fun K49_ hK49_ => ?_)
        refine C_reg ?_
        refine S_list (T_val (v := (Value.pointer (some ⟨b2_, 0, none⟩))) (by kernel_rfl) ?_)
        refine S_list (T_val (v := (Value.int .i64 1)) (x_load1 rfl Try.underlying3 rfl ((Holds.rd H43_ 4 rfl) 0 (Value.int .i64 1) rfl)) ?_)
        refine wpList_nil ?_
        refine (X_then (hK49_ _ _ ?_))
        clear hK49_
        refine C_block ?_
        refine C_seq (fun K50_ hK50_ => ?_)
        refine C_reg ?_
        refine S_list (T_val (v := (Value.bool false)) (x_bin rfl rfl rfl) ?_)
        refine S_list (T_val (v := (Value.bool false)) (x_assign rfl) ?_)
        refine wpList_nil ?_
        refine (X_then (hK50_ _ _ ?_))
        clear hK50_
        refine C_condF rfl ?_
        refine C_seq (fun K51_ hK51_ => ?_)
        refine C_reg ?_
        refine S_list (T_val (v := (Value.bool true)) (x_bin rfl rfl rfl) ?_)
        refine S_list (T_val (v := (Value.bool true)) (x_assign rfl) ?_)
        refine wpList_nil ?_
        refine (X_then (hK51_ _ _ ?_))
        clear hK51_
        refine C_condT rfl ?_
        refine C_reg ?_
        refine S_list (T_val (v := (Value.pointer (some ⟨b41_, 0, none⟩))) (x_move rfl) ?_)
        refine S_list (T_val (v := (Value.pointer (some ⟨b2_, 4, none⟩))) (by kernel_rfl) ?_)
        refine S_list (T_val (v := (Value.int .i64 n)) (x_load1 rfl Try.underlying2 rfl ((Holds.rd H43_ 4 rfl) 4 (Value.int .i64 n) rfl)) ?_)
        refine S_list (T_val (v := (Value.agg #[(Value.int .i64 n)])) (by kernel_rfl) ?_)
        refine S_list (T_box (v := (Value.agg #[(Value.int .i64 n)])) rfl H43_ ?_)
        intro b52_ w53_ S55_ H54_
        replace H54_ : Holds w53_ (cl b52_ 112 [(Value.int .i64 n)] :: cl b41_ 106 [(Value.int .i32 r), (Value.int .i32 1), (Value.slice (some ⟨b23_, 0, none⟩) key.size cp24_), (Value.nilIface), (Value.slice a38_ en.size cp39_)] :: ro R :: sl 5 1 (Value.slice a38_ en.size cp39_) en.size (bytesV (ints en)) :: sl 5 1 (Value.slice (some ⟨b23_, 0, none⟩) key.size cp24_) key.size (bytesV (ints key)) :: cl b2_ 31 [(Value.int .i64 1), (Value.int .i64 r), (Value.string key), (Value.string en), (Value.int .i64 n), (Value.string val), (Value.bool false)] :: F) := H54_
        have S56_ := Same.trans S45_ S55_
        refine S_list (T_val (v := (Value.iface 110 (Value.pointer (some ⟨b52_, 0, none⟩)))) (by kernel_rfl) ?_)
        refine S_list (T_val (v := (Value.pointer (some ⟨b41_, 0, none⟩))) (by kernel_rfl) ?_)
        refine S_list (T_val (v := (Value.pointer (some ⟨b41_, 3, none⟩))) (by kernel_rfl) ?_)
        refine S_list0 (T_store1 (v := (Value.iface 110 (Value.pointer (some ⟨b52_, 0, none⟩)))) rfl rfl z20 rfl H54_ 1 rfl (Nat.le_of_ble_eq_true (by rfl)) ?_)
        intro w57_ S59_ H58_
        replace H58_ : Holds w57_ (cl b52_ 112 [(Value.int .i64 n)] :: cl b41_ 106 [(Value.int .i32 r), (Value.int .i32 1), (Value.slice (some ⟨b23_, 0, none⟩) key.size cp24_), (Value.iface 110 (Value.pointer (some ⟨b52_, 0, none⟩))), (Value.slice a38_ en.size cp39_)] :: ro R :: sl 5 1 (Value.slice a38_ en.size cp39_) en.size (bytesV (ints en)) :: sl 5 1 (Value.slice (some ⟨b23_, 0, none⟩) key.size cp24_) key.size (bytesV (ints key)) :: cl b2_ 31 [(Value.int .i64 1), (Value.int .i64 r), (Value.string key), (Value.string en), (Value.int .i64 n), (Value.string val), (Value.bool false)] :: F) := H58_
        have S60_ := Same.trans S56_ S59_
        refine wpList_nil ?_
        refine (X_blkN (X_then (hK48_ _ _ ?_)))
        clear hK48_
        refine C_seq (fun K61_ hK61_ => ?_)
        refine C_reg ?_
        refine S_list (T_val (v := (Value.pointer (some ⟨b41_, 0, none⟩))) (x_move rfl) ?_)
        refine S_list (T_val (v := (Value.pointer (some ⟨b41_, 0, none⟩))) (x_assign rfl) ?_)
        refine wpList_nil ?_
        refine (X_then (hK61_ _ _ ?_))
        clear hK61_
        refine C_ret ?_
        refine R_any (v := (Value.pointer (some ⟨b41_, 0, none⟩))) (run_results1 rfl rfl) ?_
        have H62_ : Holds w57_ (ro R :: cl b41_ 106 [(Value.int .i32 r), (Value.int .i32 1), (Value.slice (some ⟨b23_, 0, none⟩) key.size cp24_), (Value.iface 110 (Value.pointer (some ⟨b52_, 0, none⟩))), (Value.slice a38_ en.size cp39_)] :: cl b52_ 112 [(Value.int .i64 n)] :: F) := (Holds.erase (Holds.erase (Holds.erase (Holds.bring (Holds.bring (Holds.bring H58_ 0 rfl) 1 rfl) 2 rfl) 3) 3) 3)
        exact ⟨_, [cl b41_ 106 [(Value.int .i32 r), (Value.int .i32 1), (Value.slice (some ⟨b23_, 0, none⟩) key.size cp24_), (Value.iface 110 (Value.pointer (some ⟨b52_, 0, none⟩))), (Value.slice a38_ en.size cp39_)], cl b52_ 112 [(Value.int .i64 n)]], rfl, ⟨b41_, b52_, (Value.slice (some ⟨b23_, 0, none⟩) key.size cp24_), (Value.slice a38_ en.size cp39_), rfl, rfl⟩, S60_, H62_⟩
      refine AllR.cons ?_ AllR.nil
      refine A_op (ls' := #[true, true, true, true, true, true, true, true, false, true, true, true, false, false, false]) rfl (by kernel_rfl) (T_call (al := [(Value.string en)]) (pre := []) (F := cl b2_ 31 [(Value.int .i64 1), (Value.int .i64 r), (Value.string key), (Value.string en), (Value.int .i64 n), (Value.string val), (Value.bool false)] :: F) rfl rfl cb62 (bytesOfC R en) H18_ ?_)
      rintro v66_ p67_ w63_ rfl S65_ H64_
      replace H64_ : Holds w63_ (ro R :: sl 5 1 v66_ en.size (bytesV (ints en)) :: cl b2_ 31 [(Value.int .i64 1), (Value.int .i64 r), (Value.string key), (Value.string en), (Value.int .i64 n), (Value.string val), (Value.bool false)] :: F) := H64_
      have S68_ := Same.trans S22_ S65_
      obtain ⟨-, a69_, cp70_, rfl, hle71_⟩ := Holds.sl_len H64_ 1 rfl
      refine ⟨⟨Holds.rd H64_ 2 rfl, Holds.ro_at H64_ 0 rfl⟩, ?_⟩
      refine A_ready (i := 8) (rs := []) (by kernel_rfl) ?_
      refine AllR.cons ?_ AllR.nil
      refine A_op (ls' := #[true, true, true, true, true, true, true, true, true, true, true, true, false, false, false]) rfl (by kernel_rfl) (T_s2b rfl Try.underlying9 Try.underlying25 Try.underlying5 H64_ ?_)
      intro b72_ cp73_ w74_ S76_ hc77_ H75_
      have S78_ := Same.trans S68_ S76_
      have H79_ : Holds w74_ (sl 5 1 (Value.slice (some ⟨b72_, 0, none⟩) key.size cp73_) key.size (bytesV (ints key)) :: ro R :: sl 5 1 (Value.slice a69_ en.size cp70_) en.size (bytesV (ints en)) :: cl b2_ 31 [(Value.int .i64 1), (Value.int .i64 r), (Value.string key), (Value.string en), (Value.int .i64 n), (Value.string val), (Value.bool false)] :: F) := cast2 (P := fun (c__ : List Value) (k__ : Nat) => Holds w74_ (sl 5 1 (Value.slice (some ⟨b72_, 0, none⟩) key.size cp73_) k__ c__ :: ro R :: sl 5 1 (Value.slice a69_ en.size cp70_) en.size (bytesV (ints en)) :: cl b2_ 31 [(Value.int .i64 1), (Value.int .i64 r), (Value.string key), (Value.string en), (Value.int .i64 n), (Value.string val), (Value.bool false)] :: F)) (byteCells_bytesV _ : byteCells key = bytesV (ints key)) (rfl : key.size = key.size) H75_
      refine ⟨⟨Holds.rd H79_ 3 rfl, Holds.ro_at H79_ 1 rfl⟩, ?_⟩
      refine A_take 12 (ls' := #[true, true, true, true, true, true, true, true, true, true, true, true, true, false, false]) (v := (Value.agg #[(Value.int .i32 r), (Value.int .i32 1), (Value.slice (some ⟨b72_, 0, none⟩) key.size cp73_), (Value.nilIface), (Value.slice a69_ en.size cp70_)])) rfl (by kernel_rfl) (by kernel_rfl) (by kernel_rfl) (by kernel_rfl) (fun _ _ _ h => h) (fun w hS => by kernel_rfl) ⟨Holds.rd H79_ 3 rfl, Holds.ro_at H79_ 1 rfl⟩ ?_
      refine A_ready (i := 13) (rs := []) (by kernel_rfl) ?_
      refine AllR.cons ?_ AllR.nil
      refine A_op (ls' := #[true, true, true, true, true, true, true, true, true, true, true, true, true, true, false]) rfl (by kernel_rfl) (T_box (v := (Value.agg #[(Value.int .i32 r), (Value.int .i32 1), (Value.slice (some ⟨b72_, 0, none⟩) key.size cp73_), (Value.nilIface), (Value.slice a69_ en.size cp70_)])) rfl H79_ ?_)
      intro b80_ w81_ S83_ H82_
      replace H82_ : Holds w81_ (cl b80_ 106 [(Value.int .i32 r), (Value.int .i32 1), (Value.slice (some ⟨b72_, 0, none⟩) key.size cp73_), (Value.nilIface), (Value.slice a69_ en.size cp70_)] :: sl 5 1 (Value.slice (some ⟨b72_, 0, none⟩) key.size cp73_) key.size (bytesV (ints key)) :: ro R :: sl 5 1 (Value.slice a69_ en.size cp70_) en.size (bytesV (ints en)) :: cl b2_ 31 [(Value.int .i64 1), (Value.int .i64 r), (Value.string key), (Value.string en), (Value.int .i64 n), (Value.string val), (Value.bool false)] :: F) := H82_
      have S84_ := Same.trans S78_ S83_
      refine ⟨⟨Holds.rd H82_ 4 rfl, Holds.ro_at H82_ 2 rfl⟩, ?_⟩
      refine A_take 14 (ls' := #[true, true, true, true, true, true, true, true, true, true, true, true, true, true, true]) (v := (Value.pointer (some ⟨b80_, 0, none⟩))) rfl (by kernel_rfl) (by kernel_rfl) (by kernel_rfl) (by kernel_rfl) (fun _ _ _ h => h) (fun w hS => x_assign rfl) ⟨Holds.rd H82_ 4 rfl, Holds.ro_at H82_ 2 rfl⟩ ?_
      refine A_done (by kernel_rfl) ?_
      refine (X_then (hK7_ _ _ ?_))
      clear hK7_
      refine C_seq (fun K85_ hK85_ => ?_)
      refine C_seq (fun K86_ hK86_ => ?_)
      refine C_reg ?_
      refine S_list (T_val (v := (Value.pointer (some ⟨b2_, 6, none⟩))) (by kernel_rfl) ?_)
      refine S_list (T_val (v := (Value.bool false)) (x_load1 rfl Try.underlying4 rfl ((Holds.rd H82_ 4 rfl) 6 (Value.bool false) rfl)) ?_)
      refine wpList_nil ?_
      refine (X_then (hK86_ _ _ ?_))
      clear hK86_
      refine C_condF rfl ?_
      refine C_skip (X_then (hK85_ _ _ ?_))
      clear hK85_
      refine C_seq (fun K87_ hK87_ => ?_)
      refine C_seq (fun K88_ hK88_ => ?_)
      refine C_reg ?_
      refine S_list (T_val (v := (Value.pointer (some ⟨b2_, 0, none⟩))) (by kernel_rfl) ?_)
      refine S_list (T_val (v := (Value.int .i64 1)) (x_load1 rfl Try.underlying3 rfl ((Holds.rd H82_ 4 rfl) 0 (Value.int .i64 1) rfl)) ?_)
      refine wpList_nil ?_
      refine (X_then (hK88_ _ _ ?_))
      clear hK88_
      refine C_block ?_
      refine C_seq (fun K89_ hK89_ => ?_)
      refine C_reg ?_
      refine S_list (T_val (v := (Value.bool false)) (x_bin rfl rfl rfl) ?_)
      refine S_list (T_val (v := (Value.bool false)) (x_assign rfl) ?_)
      refine wpList_nil ?_
      refine (X_then (hK89_ _ _ ?_))
      clear hK89_
      refine C_condF rfl ?_
      refine C_seq (fun K90_ hK90_ => ?_)
      refine C_reg ?_
      refine S_list (T_val (v := (Value.bool true)) (x_bin rfl rfl rfl) ?_)
      refine S_list (T_val (v := (Value.bool true)) (x_assign rfl) ?_)
      refine wpList_nil ?_
      refine (X_then (hK90_ _ _ ?_))
      clear hK90_
      refine C_condT rfl ?_
      refine C_reg ?_
      refine S_list (T_val (v := (Value.pointer (some ⟨b80_, 0, none⟩))) (x_move rfl) ?_)
      refine S_list (T_val (v := (Value.pointer (some ⟨b2_, 4, none⟩))) (by kernel_rfl) ?_)
      refine S_list (T_val (v := (Value.int .i64 n)) (x_load1 rfl Try.underlying2 rfl ((Holds.rd H82_ 4 rfl) 4 (Value.int .i64 n) rfl)) ?_)
      refine S_list (T_val (v := (Value.agg #[(Value.int .i64 n)])) (by kernel_rfl) ?_)
      refine S_list (T_box (v := (Value.agg #[(Value.int .i64 n)])) rfl H82_ ?_)
      intro b91_ w92_ S94_ H93_
      replace H93_ : Holds w92_ (cl b91_ 112 [(Value.int .i64 n)] :: cl b80_ 106 [(Value.int .i32 r), (Value.int .i32 1), (Value.slice (some ⟨b72_, 0, none⟩) key.size cp73_), (Value.nilIface), (Value.slice a69_ en.size cp70_)] :: sl 5 1 (Value.slice (some ⟨b72_, 0, none⟩) key.size cp73_) key.size (bytesV (ints key)) :: ro R :: sl 5 1 (Value.slice a69_ en.size cp70_) en.size (bytesV (ints en)) :: cl b2_ 31 [(Value.int .i64 1), (Value.int .i64 r), (Value.string key), (Value.string en), (Value.int .i64 n), (Value.string val), (Value.bool false)] :: F) := H93_
      have S95_ := Same.trans S84_ S94_
      refine S_list (T_val (v := (Value.iface 110 (Value.pointer (some ⟨b91_, 0, none⟩)))) (by kernel_rfl) ?_)
      refine S_list (T_val (v := (Value.pointer (some ⟨b80_, 0, none⟩))) (by kernel_rfl) ?_)
      refine S_list (T_val (v := (Value.pointer (some ⟨b80_, 3, none⟩))) (by kernel_rfl) ?_)
      refine S_list0 (T_store1 (v := (Value.iface 110 (Value.pointer (some ⟨b91_, 0, none⟩)))) rfl rfl z20 rfl H93_ 1 rfl (Nat.le_of_ble_eq_true (by rfl)) ?_)
      intro w96_ S98_ H97_
      replace H97_ : Holds w96_ (cl b91_ 112 [(Value.int .i64 n)] :: cl b80_ 106 [(Value.int .i32 r), (Value.int .i32 1), (Value.slice (some ⟨b72_, 0, none⟩) key.size cp73_), (Value.iface 110 (Value.pointer (some ⟨b91_, 0, none⟩))), (Value.slice a69_ en.size cp70_)] :: sl 5 1 (Value.slice (some ⟨b72_, 0, none⟩) key.size cp73_) key.size (bytesV (ints key)) :: ro R :: sl 5 1 (Value.slice a69_ en.size cp70_) en.size (bytesV (ints en)) :: cl b2_ 31 [(Value.int .i64 1), (Value.int .i64 r), (Value.string key), (Value.string en), (Value.int .i64 n), (Value.string val), (Value.bool false)] :: F) := H97_
      have S99_ := Same.trans S95_ S98_
      refine wpList_nil ?_
      refine (X_blkN (X_then (hK87_ _ _ ?_)))
      clear hK87_
      refine C_seq (fun K100_ hK100_ => ?_)
      refine C_reg ?_
      refine S_list (T_val (v := (Value.pointer (some ⟨b80_, 0, none⟩))) (x_move rfl) ?_)
      refine S_list (T_val (v := (Value.pointer (some ⟨b80_, 0, none⟩))) (x_assign rfl) ?_)
      refine wpList_nil ?_
      refine (X_then (hK100_ _ _ ?_))
      clear hK100_
      refine C_ret ?_
      refine R_any (v := (Value.pointer (some ⟨b80_, 0, none⟩))) (run_results1 rfl rfl) ?_
      have H101_ : Holds w96_ (ro R :: cl b80_ 106 [(Value.int .i32 r), (Value.int .i32 1), (Value.slice (some ⟨b72_, 0, none⟩) key.size cp73_), (Value.iface 110 (Value.pointer (some ⟨b91_, 0, none⟩))), (Value.slice a69_ en.size cp70_)] :: cl b91_ 112 [(Value.int .i64 n)] :: F) := (Holds.erase (Holds.erase (Holds.erase (Holds.bring (Holds.bring (Holds.bring H97_ 0 rfl) 1 rfl) 3 rfl) 3) 3) 3)
      exact ⟨_, [cl b80_ 106 [(Value.int .i32 r), (Value.int .i32 1), (Value.slice (some ⟨b72_, 0, none⟩) key.size cp73_), (Value.iface 110 (Value.pointer (some ⟨b91_, 0, none⟩))), (Value.slice a69_ en.size cp70_)], cl b91_ 112 [(Value.int .i64 n)]], rfl, ⟨b80_, b91_, (Value.slice (some ⟨b72_, 0, none⟩) key.size cp73_), (Value.slice a69_ en.size cp70_), rfl, rfl⟩, S99_, H101_⟩
    refine AllR.cons ?_ AllR.nil
    refine A_op (ls' := #[true, true, true, true, true, false, true, true, true, true, true, false, false, false, false]) rfl (by kernel_rfl) (T_s2b rfl Try.underlying9 Try.underlying25 Try.underlying5 H12_ ?_)
    intro b102_ cp103_ w104_ S106_ hc107_ H105_
    have S108_ := Same.trans S16_ S106_
    have H109_ : Holds w104_ (sl 5 1 (Value.slice (some ⟨b102_, 0, none⟩) key.size cp103_) key.size (bytesV (ints key)) :: ro R :: cl b2_ 31 [(Value.int .i64 1), (Value.int .i64 r), (Value.string key), (Value.string en), (Value.int .i64 n), (Value.string val), (Value.bool false)] :: F) := cast2 (P := fun (c__ : List Value) (k__ : Nat) => Holds w104_ (sl 5 1 (Value.slice (some ⟨b102_, 0, none⟩) key.size cp103_) k__ c__ :: ro R :: cl b2_ 31 [(Value.int .i64 1), (Value.int .i64 r), (Value.string key), (Value.string en), (Value.int .i64 n), (Value.string val), (Value.bool false)] :: F)) (byteCells_bytesV _ : byteCells key = bytesV (ints key)) (rfl : key.size = key.size) H105_
    refine ⟨⟨Holds.rd H109_ 2 rfl, Holds.ro_at H109_ 1 rfl⟩, ?_⟩
    refine A_ready (i := 5) (rs := []) (by kernel_rfl) ?_
    refine AllR.cons ?_ AllR.nil
    have H110_ : Holds w104_ (ro R :: sl 5 1 (Value.slice (some ⟨b102_, 0, none⟩) key.size cp103_) key.size (bytesV (ints key)) :: cl b2_ 31 [(Value.int .i64 1), (Value.int .i64 r), (Value.string key), (Value.string en), (Value.int .i64 n), (Value.string val), (Value.bool false)] :: F) := (Holds.bring H109_ 1 rfl)
    refine A_op (ls' := #[true, true, true, true, true, true, true, true, true, true, true, false, false, false, false]) rfl (by kernel_rfl) (T_call (al := [(Value.int .i64 1)]) (pre := []) (F := sl 5 1 (Value.slice (some ⟨b102_, 0, none⟩) key.size cp103_) key.size (bytesV (ints key)) :: cl b2_ 31 [(Value.int .i64 1), (Value.int .i64 r), (Value.string key), (Value.string en), (Value.int .i64 n), (Value.string val), (Value.bool false)] :: F) rfl rfl cb61 (ordSmall R 1 (by omega) (by omega)) H110_ ?_)
    rintro v114_ p115_ w111_ ⟨rfl, rfl⟩ S113_ H112_
    replace H112_ : Holds w111_ (ro R :: sl 5 1 (Value.slice (some ⟨b102_, 0, none⟩) key.size cp103_) key.size (bytesV (ints key)) :: cl b2_ 31 [(Value.int .i64 1), (Value.int .i64 r), (Value.string key), (Value.string en), (Value.int .i64 n), (Value.string val), (Value.bool false)] :: F) := H112_
    have S116_ := Same.trans S108_ S113_
    refine ⟨⟨Holds.rd H112_ 2 rfl, Holds.ro_at H112_ 0 rfl⟩, ?_⟩
    refine A_ready (i := 11) (rs := []) (by kernel_rfl) ?_
    refine AllR.cons ?_ AllR.nil
    refine A_op (ls' := #[true, true, true, true, true, true, true, true, true, true, true, true, false, false, false]) rfl (by kernel_rfl) (T_call (al := [(Value.string en)]) (pre := []) (F := sl 5 1 (Value.slice (some ⟨b102_, 0, none⟩) key.size cp103_) key.size (bytesV (ints key)) :: cl b2_ 31 [(Value.int .i64 1), (Value.int .i64 r), (Value.string key), (Value.string en), (Value.int .i64 n), (Value.string val), (Value.bool false)] :: F) rfl rfl cb62 (bytesOfC R en) H112_ ?_)
    rintro v120_ p121_ w117_ rfl S119_ H118_
    replace H118_ : Holds w117_ (ro R :: sl 5 1 v120_ en.size (bytesV (ints en)) :: sl 5 1 (Value.slice (some ⟨b102_, 0, none⟩) key.size cp103_) key.size (bytesV (ints key)) :: cl b2_ 31 [(Value.int .i64 1), (Value.int .i64 r), (Value.string key), (Value.string en), (Value.int .i64 n), (Value.string val), (Value.bool false)] :: F) := H118_
    have S122_ := Same.trans S116_ S119_
    obtain ⟨-, a123_, cp124_, rfl, hle125_⟩ := Holds.sl_len H118_ 1 rfl
    refine ⟨⟨Holds.rd H118_ 3 rfl, Holds.ro_at H118_ 0 rfl⟩, ?_⟩
    refine A_take 12 (ls' := #[true, true, true, true, true, true, true, true, true, true, true, true, true, false, false]) (v := (Value.agg #[(Value.int .i32 r), (Value.int .i32 1), (Value.slice (some ⟨b102_, 0, none⟩) key.size cp103_), (Value.nilIface), (Value.slice a123_ en.size cp124_)])) rfl (by kernel_rfl) (by kernel_rfl) (by kernel_rfl) (by kernel_rfl) (fun _ _ _ h => h) (fun w hS => by kernel_rfl) ⟨Holds.rd H118_ 3 rfl, Holds.ro_at H118_ 0 rfl⟩ ?_
    refine A_ready (i := 13) (rs := []) (by kernel_rfl) ?_
    refine AllR.cons ?_ AllR.nil
    refine A_op (ls' := #[true, true, true, true, true, true, true, true, true, true, true, true, true, true, false]) rfl (by kernel_rfl) (T_box (v := (Value.agg #[(Value.int .i32 r), (Value.int .i32 1), (Value.slice (some ⟨b102_, 0, none⟩) key.size cp103_), (Value.nilIface), (Value.slice a123_ en.size cp124_)])) rfl H118_ ?_)
    intro b126_ w127_ S129_ H128_
    replace H128_ : Holds w127_ (cl b126_ 106 [(Value.int .i32 r), (Value.int .i32 1), (Value.slice (some ⟨b102_, 0, none⟩) key.size cp103_), (Value.nilIface), (Value.slice a123_ en.size cp124_)] :: ro R :: sl 5 1 (Value.slice a123_ en.size cp124_) en.size (bytesV (ints en)) :: sl 5 1 (Value.slice (some ⟨b102_, 0, none⟩) key.size cp103_) key.size (bytesV (ints key)) :: cl b2_ 31 [(Value.int .i64 1), (Value.int .i64 r), (Value.string key), (Value.string en), (Value.int .i64 n), (Value.string val), (Value.bool false)] :: F) := H128_
    have S130_ := Same.trans S122_ S129_
    refine ⟨⟨Holds.rd H128_ 4 rfl, Holds.ro_at H128_ 1 rfl⟩, ?_⟩
    refine A_take 14 (ls' := #[true, true, true, true, true, true, true, true, true, true, true, true, true, true, true]) (v := (Value.pointer (some ⟨b126_, 0, none⟩))) rfl (by kernel_rfl) (by kernel_rfl) (by kernel_rfl) (by kernel_rfl) (fun _ _ _ h => h) (fun w hS => x_assign rfl) ⟨Holds.rd H128_ 4 rfl, Holds.ro_at H128_ 1 rfl⟩ ?_
    refine A_done (by kernel_rfl) ?_
    refine (X_then (hK7_ _ _ ?_))
    clear hK7_
    refine C_seq (fun K131_ hK131_ => ?_)
    refine C_seq (fun K132_ hK132_ => ?_)
    refine C_reg ?_
    refine S_list (T_val (v := (Value.pointer (some ⟨b2_, 6, none⟩))) (by kernel_rfl) ?_)
    refine S_list (T_val (v := (Value.bool false)) (x_load1 rfl Try.underlying4 rfl ((Holds.rd H128_ 4 rfl) 6 (Value.bool false) rfl)) ?_)
    refine wpList_nil ?_
    refine (X_then (hK132_ _ _ ?_))
    clear hK132_
    refine C_condF rfl ?_
    refine C_skip (X_then (hK131_ _ _ ?_))
    clear hK131_
    refine C_seq (fun K133_ hK133_ => ?_)
    refine C_seq (fun K134_ hK134_ => ?_)
    refine C_reg ?_
    refine S_list (T_val (v := (Value.pointer (some ⟨b2_, 0, none⟩))) (by kernel_rfl) ?_)
    refine S_list (T_val (v := (Value.int .i64 1)) (x_load1 rfl Try.underlying3 rfl ((Holds.rd H128_ 4 rfl) 0 (Value.int .i64 1) rfl)) ?_)
    refine wpList_nil ?_
    refine (X_then (hK134_ _ _ ?_))
    clear hK134_
    refine C_block ?_
    refine C_seq (fun K135_ hK135_ => ?_)
    refine C_reg ?_
    refine S_list (T_val (v := (Value.bool false)) (x_bin rfl rfl rfl) ?_)
    refine S_list (T_val (v := (Value.bool false)) (x_assign rfl) ?_)
    refine wpList_nil ?_
    refine (X_then (hK135_ _ _ ?_))
    clear hK135_
    refine C_condF rfl ?_
    refine C_seq (fun K136_ hK136_ => ?_)
    refine C_reg ?_
    refine S_list (T_val (v := (Value.bool true)) (x_bin rfl rfl rfl) ?_)
    refine S_list (T_val (v := (Value.bool true)) (x_assign rfl) ?_)
    refine wpList_nil ?_
    refine (X_then (hK136_ _ _ ?_))
    clear hK136_
    refine C_condT rfl ?_
    refine C_reg ?_
    refine S_list (T_val (v := (Value.pointer (some ⟨b126_, 0, none⟩))) (x_move rfl) ?_)
    refine S_list (T_val (v := (Value.pointer (some ⟨b2_, 4, none⟩))) (by kernel_rfl) ?_)
    refine S_list (T_val (v := (Value.int .i64 n)) (x_load1 rfl Try.underlying2 rfl ((Holds.rd H128_ 4 rfl) 4 (Value.int .i64 n) rfl)) ?_)
    refine S_list (T_val (v := (Value.agg #[(Value.int .i64 n)])) (by kernel_rfl) ?_)
    refine S_list (T_box (v := (Value.agg #[(Value.int .i64 n)])) rfl H128_ ?_)
    intro b137_ w138_ S140_ H139_
    replace H139_ : Holds w138_ (cl b137_ 112 [(Value.int .i64 n)] :: cl b126_ 106 [(Value.int .i32 r), (Value.int .i32 1), (Value.slice (some ⟨b102_, 0, none⟩) key.size cp103_), (Value.nilIface), (Value.slice a123_ en.size cp124_)] :: ro R :: sl 5 1 (Value.slice a123_ en.size cp124_) en.size (bytesV (ints en)) :: sl 5 1 (Value.slice (some ⟨b102_, 0, none⟩) key.size cp103_) key.size (bytesV (ints key)) :: cl b2_ 31 [(Value.int .i64 1), (Value.int .i64 r), (Value.string key), (Value.string en), (Value.int .i64 n), (Value.string val), (Value.bool false)] :: F) := H139_
    have S141_ := Same.trans S130_ S140_
    refine S_list (T_val (v := (Value.iface 110 (Value.pointer (some ⟨b137_, 0, none⟩)))) (by kernel_rfl) ?_)
    refine S_list (T_val (v := (Value.pointer (some ⟨b126_, 0, none⟩))) (by kernel_rfl) ?_)
    refine S_list (T_val (v := (Value.pointer (some ⟨b126_, 3, none⟩))) (by kernel_rfl) ?_)
    refine S_list0 (T_store1 (v := (Value.iface 110 (Value.pointer (some ⟨b137_, 0, none⟩)))) rfl rfl z20 rfl H139_ 1 rfl (Nat.le_of_ble_eq_true (by rfl)) ?_)
    intro w142_ S144_ H143_
    replace H143_ : Holds w142_ (cl b137_ 112 [(Value.int .i64 n)] :: cl b126_ 106 [(Value.int .i32 r), (Value.int .i32 1), (Value.slice (some ⟨b102_, 0, none⟩) key.size cp103_), (Value.iface 110 (Value.pointer (some ⟨b137_, 0, none⟩))), (Value.slice a123_ en.size cp124_)] :: ro R :: sl 5 1 (Value.slice a123_ en.size cp124_) en.size (bytesV (ints en)) :: sl 5 1 (Value.slice (some ⟨b102_, 0, none⟩) key.size cp103_) key.size (bytesV (ints key)) :: cl b2_ 31 [(Value.int .i64 1), (Value.int .i64 r), (Value.string key), (Value.string en), (Value.int .i64 n), (Value.string val), (Value.bool false)] :: F) := H143_
    have S145_ := Same.trans S141_ S144_
    refine wpList_nil ?_
    refine (X_blkN (X_then (hK133_ _ _ ?_)))
    clear hK133_
    refine C_seq (fun K146_ hK146_ => ?_)
    refine C_reg ?_
    refine S_list (T_val (v := (Value.pointer (some ⟨b126_, 0, none⟩))) (x_move rfl) ?_)
    refine S_list (T_val (v := (Value.pointer (some ⟨b126_, 0, none⟩))) (x_assign rfl) ?_)
    refine wpList_nil ?_
    refine (X_then (hK146_ _ _ ?_))
    clear hK146_
    refine C_ret ?_
    refine R_any (v := (Value.pointer (some ⟨b126_, 0, none⟩))) (run_results1 rfl rfl) ?_
    have H147_ : Holds w142_ (ro R :: cl b126_ 106 [(Value.int .i32 r), (Value.int .i32 1), (Value.slice (some ⟨b102_, 0, none⟩) key.size cp103_), (Value.iface 110 (Value.pointer (some ⟨b137_, 0, none⟩))), (Value.slice a123_ en.size cp124_)] :: cl b137_ 112 [(Value.int .i64 n)] :: F) := (Holds.erase (Holds.erase (Holds.erase (Holds.bring (Holds.bring (Holds.bring H143_ 0 rfl) 1 rfl) 2 rfl) 3) 3) 3)
    exact ⟨_, [cl b126_ 106 [(Value.int .i32 r), (Value.int .i32 1), (Value.slice (some ⟨b102_, 0, none⟩) key.size cp103_), (Value.iface 110 (Value.pointer (some ⟨b137_, 0, none⟩))), (Value.slice a123_ en.size cp124_)], cl b137_ 112 [(Value.int .i64 n)]], rfl, ⟨b126_, b137_, (Value.slice (some ⟨b102_, 0, none⟩) key.size cp103_), (Value.slice a123_ en.size cp124_), rfl, rfl⟩, S145_, H147_⟩
  refine AllR.cons ?_ AllR.nil
  refine A_op (ls' := #[true, true, false, true, true, false, true, true, true, true, true, false, false, false, false]) rfl (by kernel_rfl) (T_s2b rfl Try.underlying9 Try.underlying25 Try.underlying5 H9_ ?_)
  intro b148_ cp149_ w150_ S152_ hc153_ H151_
  have S154_ := Same.trans (Same.trans S6_ (Same.drew _)) S152_
  have H155_ : Holds w150_ (sl 5 1 (Value.slice (some ⟨b148_, 0, none⟩) key.size cp149_) key.size (bytesV (ints key)) :: cl b2_ 31 [(Value.int .i64 1), (Value.int .i64 r), (Value.string key), (Value.string en), (Value.int .i64 n), (Value.string val), (Value.bool false)] :: ro R :: F) := cast2 (P := fun (c__ : List Value) (k__ : Nat) => Holds w150_ (sl 5 1 (Value.slice (some ⟨b148_, 0, none⟩) key.size cp149_) k__ c__ :: cl b2_ 31 [(Value.int .i64 1), (Value.int .i64 r), (Value.string key), (Value.string en), (Value.int .i64 n), (Value.string val), (Value.bool false)] :: ro R :: F)) (byteCells_bytesV _ : byteCells key = bytesV (ints key)) (rfl : key.size = key.size) H151_
  refine ⟨⟨Holds.rd H155_ 1 rfl, Holds.ro_at H155_ 2 rfl⟩, ?_⟩
  refine A_ready (i := 2) (rs := []) (by kernel_rfl) ?_
  refine AllR.cons ?_ AllR.nil
  have H156_ : Holds w150_ (ro R :: sl 5 1 (Value.slice (some ⟨b148_, 0, none⟩) key.size cp149_) key.size (bytesV (ints key)) :: cl b2_ 31 [(Value.int .i64 1), (Value.int .i64 r), (Value.string key), (Value.string en), (Value.int .i64 n), (Value.string val), (Value.bool false)] :: F) := (Holds.bring H155_ 2 rfl)
  refine A_op (ls' := #[true, true, true, true, true, false, true, true, true, true, true, false, false, false, false]) rfl (by kernel_rfl) (T_call (al := [(Value.int .i64 r)]) (pre := []) (F := sl 5 1 (Value.slice (some ⟨b148_, 0, none⟩) key.size cp149_) key.size (bytesV (ints key)) :: cl b2_ 31 [(Value.int .i64 1), (Value.int .i64 r), (Value.string key), (Value.string en), (Value.int .i64 n), (Value.string val), (Value.bool false)] :: F) rfl rfl cb61 (ordSmall R r (by omega) (by omega)) H156_ ?_)
  rintro v160_ p161_ w157_ ⟨rfl, rfl⟩ S159_ H158_
  replace H158_ : Holds w157_ (ro R :: sl 5 1 (Value.slice (some ⟨b148_, 0, none⟩) key.size cp149_) key.size (bytesV (ints key)) :: cl b2_ 31 [(Value.int .i64 1), (Value.int .i64 r), (Value.string key), (Value.string en), (Value.int .i64 n), (Value.string val), (Value.bool false)] :: F) := H158_
  have S162_ := Same.trans S154_ S159_
  refine ⟨⟨Holds.rd H158_ 2 rfl, Holds.ro_at H158_ 0 rfl⟩, ?_⟩
  refine A_ready (i := 5) (rs := []) (by kernel_rfl) ?_
  refine AllR.cons ?_ AllR.nil
  refine A_op (ls' := #[true, true, true, true, true, true, true, true, true, true, true, false, false, false, false]) rfl (by kernel_rfl) (T_call (al := [(Value.int .i64 1)]) (pre := []) (F := sl 5 1 (Value.slice (some ⟨b148_, 0, none⟩) key.size cp149_) key.size (bytesV (ints key)) :: cl b2_ 31 [(Value.int .i64 1), (Value.int .i64 r), (Value.string key), (Value.string en), (Value.int .i64 n), (Value.string val), (Value.bool false)] :: F) rfl rfl cb61 (ordSmall R 1 (by omega) (by omega)) H158_ ?_)
  rintro v166_ p167_ w163_ ⟨rfl, rfl⟩ S165_ H164_
  replace H164_ : Holds w163_ (ro R :: sl 5 1 (Value.slice (some ⟨b148_, 0, none⟩) key.size cp149_) key.size (bytesV (ints key)) :: cl b2_ 31 [(Value.int .i64 1), (Value.int .i64 r), (Value.string key), (Value.string en), (Value.int .i64 n), (Value.string val), (Value.bool false)] :: F) := H164_
  have S168_ := Same.trans S162_ S165_
  refine ⟨⟨Holds.rd H164_ 2 rfl, Holds.ro_at H164_ 0 rfl⟩, ?_⟩
  refine A_ready (i := 11) (rs := []) (by kernel_rfl) ?_
  refine AllR.cons ?_ AllR.nil
  refine A_op (ls' := #[true, true, true, true, true, true, true, true, true, true, true, true, false, false, false]) rfl (by kernel_rfl) (T_call (al := [(Value.string en)]) (pre := []) (F := sl 5 1 (Value.slice (some ⟨b148_, 0, none⟩) key.size cp149_) key.size (bytesV (ints key)) :: cl b2_ 31 [(Value.int .i64 1), (Value.int .i64 r), (Value.string key), (Value.string en), (Value.int .i64 n), (Value.string val), (Value.bool false)] :: F) rfl rfl cb62 (bytesOfC R en) H164_ ?_)
  rintro v172_ p173_ w169_ rfl S171_ H170_
  replace H170_ : Holds w169_ (ro R :: sl 5 1 v172_ en.size (bytesV (ints en)) :: sl 5 1 (Value.slice (some ⟨b148_, 0, none⟩) key.size cp149_) key.size (bytesV (ints key)) :: cl b2_ 31 [(Value.int .i64 1), (Value.int .i64 r), (Value.string key), (Value.string en), (Value.int .i64 n), (Value.string val), (Value.bool false)] :: F) := H170_
  have S174_ := Same.trans S168_ S171_
  obtain ⟨-, a175_, cp176_, rfl, hle177_⟩ := Holds.sl_len H170_ 1 rfl
  refine ⟨⟨Holds.rd H170_ 3 rfl, Holds.ro_at H170_ 0 rfl⟩, ?_⟩
  refine A_take 12 (ls' := #[true, true, true, true, true, true, true, true, true, true, true, true, true, false, false]) (v := (Value.agg #[(Value.int .i32 r), (Value.int .i32 1), (Value.slice (some ⟨b148_, 0, none⟩) key.size cp149_), (Value.nilIface), (Value.slice a175_ en.size cp176_)])) rfl (by kernel_rfl) (by kernel_rfl) (by kernel_rfl) (by kernel_rfl) (fun _ _ _ h => h) (fun w hS => by kernel_rfl) ⟨Holds.rd H170_ 3 rfl, Holds.ro_at H170_ 0 rfl⟩ ?_
  refine A_ready (i := 13) (rs := []) (by kernel_rfl) ?_
  refine AllR.cons ?_ AllR.nil
  refine A_op (ls' := #[true, true, true, true, true, true, true, true, true, true, true, true, true, true, false]) rfl (by kernel_rfl) (T_box (v := (Value.agg #[(Value.int .i32 r), (Value.int .i32 1), (Value.slice (some ⟨b148_, 0, none⟩) key.size cp149_), (Value.nilIface), (Value.slice a175_ en.size cp176_)])) rfl H170_ ?_)
  intro b178_ w179_ S181_ H180_
  replace H180_ : Holds w179_ (cl b178_ 106 [(Value.int .i32 r), (Value.int .i32 1), (Value.slice (some ⟨b148_, 0, none⟩) key.size cp149_), (Value.nilIface), (Value.slice a175_ en.size cp176_)] :: ro R :: sl 5 1 (Value.slice a175_ en.size cp176_) en.size (bytesV (ints en)) :: sl 5 1 (Value.slice (some ⟨b148_, 0, none⟩) key.size cp149_) key.size (bytesV (ints key)) :: cl b2_ 31 [(Value.int .i64 1), (Value.int .i64 r), (Value.string key), (Value.string en), (Value.int .i64 n), (Value.string val), (Value.bool false)] :: F) := H180_
  have S182_ := Same.trans S174_ S181_
  refine ⟨⟨Holds.rd H180_ 4 rfl, Holds.ro_at H180_ 1 rfl⟩, ?_⟩
  refine A_take 14 (ls' := #[true, true, true, true, true, true, true, true, true, true, true, true, true, true, true]) (v := (Value.pointer (some ⟨b178_, 0, none⟩))) rfl (by kernel_rfl) (by kernel_rfl) (by kernel_rfl) (by kernel_rfl) (fun _ _ _ h => h) (fun w hS => x_assign rfl) ⟨Holds.rd H180_ 4 rfl, Holds.ro_at H180_ 1 rfl⟩ ?_
  refine A_done (by kernel_rfl) ?_
  refine (X_then (hK7_ _ _ ?_))
  clear hK7_
  refine C_seq (fun K183_ hK183_ => ?_)
  refine C_seq (fun K184_ hK184_ => ?_)
  refine C_reg ?_
  refine S_list (T_val (v := (Value.pointer (some ⟨b2_, 6, none⟩))) (by kernel_rfl) ?_)
  refine S_list (T_val (v := (Value.bool false)) (x_load1 rfl Try.underlying4 rfl ((Holds.rd H180_ 4 rfl) 6 (Value.bool false) rfl)) ?_)
  refine wpList_nil ?_
  refine (X_then (hK184_ _ _ ?_))
  clear hK184_
  refine C_condF rfl ?_
  refine C_skip (X_then (hK183_ _ _ ?_))
  clear hK183_
  refine C_seq (fun K185_ hK185_ => ?_)
  refine C_seq (fun K186_ hK186_ => ?_)
  refine C_reg ?_
  refine S_list (T_val (v := (Value.pointer (some ⟨b2_, 0, none⟩))) (by kernel_rfl) ?_)
  refine S_list (T_val (v := (Value.int .i64 1)) (x_load1 rfl Try.underlying3 rfl ((Holds.rd H180_ 4 rfl) 0 (Value.int .i64 1) rfl)) ?_)
  refine wpList_nil ?_
  refine (X_then (hK186_ _ _ ?_))
  clear hK186_
  refine C_block ?_
  refine C_seq (fun K187_ hK187_ => ?_)
  refine C_reg ?_
  refine S_list (T_val (v := (Value.bool false)) (x_bin rfl rfl rfl) ?_)
  refine S_list (T_val (v := (Value.bool false)) (x_assign rfl) ?_)
  refine wpList_nil ?_
  refine (X_then (hK187_ _ _ ?_))
  clear hK187_
  refine C_condF rfl ?_
  refine C_seq (fun K188_ hK188_ => ?_)
  refine C_reg ?_
  refine S_list (T_val (v := (Value.bool true)) (x_bin rfl rfl rfl) ?_)
  refine S_list (T_val (v := (Value.bool true)) (x_assign rfl) ?_)
  refine wpList_nil ?_
  refine (X_then (hK188_ _ _ ?_))
  clear hK188_
  refine C_condT rfl ?_
  refine C_reg ?_
  refine S_list (T_val (v := (Value.pointer (some ⟨b178_, 0, none⟩))) (x_move rfl) ?_)
  refine S_list (T_val (v := (Value.pointer (some ⟨b2_, 4, none⟩))) (by kernel_rfl) ?_)
  refine S_list (T_val (v := (Value.int .i64 n)) (x_load1 rfl Try.underlying2 rfl ((Holds.rd H180_ 4 rfl) 4 (Value.int .i64 n) rfl)) ?_)
  refine S_list (T_val (v := (Value.agg #[(Value.int .i64 n)])) (by kernel_rfl) ?_)
  refine S_list (T_box (v := (Value.agg #[(Value.int .i64 n)])) rfl H180_ ?_)
  intro b189_ w190_ S192_ H191_
  replace H191_ : Holds w190_ (cl b189_ 112 [(Value.int .i64 n)] :: cl b178_ 106 [(Value.int .i32 r), (Value.int .i32 1), (Value.slice (some ⟨b148_, 0, none⟩) key.size cp149_), (Value.nilIface), (Value.slice a175_ en.size cp176_)] :: ro R :: sl 5 1 (Value.slice a175_ en.size cp176_) en.size (bytesV (ints en)) :: sl 5 1 (Value.slice (some ⟨b148_, 0, none⟩) key.size cp149_) key.size (bytesV (ints key)) :: cl b2_ 31 [(Value.int .i64 1), (Value.int .i64 r), (Value.string key), (Value.string en), (Value.int .i64 n), (Value.string val), (Value.bool false)] :: F) := H191_
  have S193_ := Same.trans S182_ S192_
  refine S_list (T_val (v := (Value.iface 110 (Value.pointer (some ⟨b189_, 0, none⟩)))) (by kernel_rfl) ?_)
  refine S_list (T_val (v := (Value.pointer (some ⟨b178_, 0, none⟩))) (by kernel_rfl) ?_)
  refine S_list (T_val (v := (Value.pointer (some ⟨b178_, 3, none⟩))) (by kernel_rfl) ?_)
  refine S_list0 (T_store1 (v := (Value.iface 110 (Value.pointer (some ⟨b189_, 0, none⟩)))) rfl rfl z20 rfl H191_ 1 rfl (Nat.le_of_ble_eq_true (by rfl)) ?_)
  intro w194_ S196_ H195_
  replace H195_ : Holds w194_ (cl b189_ 112 [(Value.int .i64 n)] :: cl b178_ 106 [(Value.int .i32 r), (Value.int .i32 1), (Value.slice (some ⟨b148_, 0, none⟩) key.size cp149_), (Value.iface 110 (Value.pointer (some ⟨b189_, 0, none⟩))), (Value.slice a175_ en.size cp176_)] :: ro R :: sl 5 1 (Value.slice a175_ en.size cp176_) en.size (bytesV (ints en)) :: sl 5 1 (Value.slice (some ⟨b148_, 0, none⟩) key.size cp149_) key.size (bytesV (ints key)) :: cl b2_ 31 [(Value.int .i64 1), (Value.int .i64 r), (Value.string key), (Value.string en), (Value.int .i64 n), (Value.string val), (Value.bool false)] :: F) := H195_
  have S197_ := Same.trans S193_ S196_
  refine wpList_nil ?_
  refine (X_blkN (X_then (hK185_ _ _ ?_)))
  clear hK185_
  refine C_seq (fun K198_ hK198_ => ?_)
  refine C_reg ?_
  refine S_list (T_val (v := (Value.pointer (some ⟨b178_, 0, none⟩))) (x_move rfl) ?_)
  refine S_list (T_val (v := (Value.pointer (some ⟨b178_, 0, none⟩))) (x_assign rfl) ?_)
  refine wpList_nil ?_
  refine (X_then (hK198_ _ _ ?_))
  clear hK198_
  refine C_ret ?_
  refine R_any (v := (Value.pointer (some ⟨b178_, 0, none⟩))) (run_results1 rfl rfl) ?_
  have H199_ : Holds w194_ (ro R :: cl b178_ 106 [(Value.int .i32 r), (Value.int .i32 1), (Value.slice (some ⟨b148_, 0, none⟩) key.size cp149_), (Value.iface 110 (Value.pointer (some ⟨b189_, 0, none⟩))), (Value.slice a175_ en.size cp176_)] :: cl b189_ 112 [(Value.int .i64 n)] :: F) := (Holds.erase (Holds.erase (Holds.erase (Holds.bring (Holds.bring (Holds.bring H195_ 0 rfl) 1 rfl) 2 rfl) 3) 3) 3)
  exact ⟨_, [cl b178_ 106 [(Value.int .i32 r), (Value.int .i32 1), (Value.slice (some ⟨b148_, 0, none⟩) key.size cp149_), (Value.iface 110 (Value.pointer (some ⟨b189_, 0, none⟩))), (Value.slice a175_ en.size cp176_)], cl b189_ 112 [(Value.int .i64 n)]], rfl, ⟨b178_, b189_, (Value.slice (some ⟨b148_, 0, none⟩) key.size cp149_), (Value.slice a175_ en.size cp176_), rfl, rfl⟩, S197_, H199_⟩

set_option maxHeartbeats 400000 in
theorem cmpIn2t (R : HP) (r : Int) (key en : ByteArray) (n : Int) (val : ByteArray) (h0 : 0 ≤ r) (h1 : r ≤ 3) :
    Tri Try.prog 36 #[(Value.agg #[(Value.int .i64 2), (Value.int .i64 r), (Value.string key), (Value.string en), (Value.int .i64 n), (Value.string val), (Value.bool true)])] R [] (fun v post => ∃ c K E, v = .pointer (some ⟨c, 0, none⟩) ∧ post = [cl c 106 [.int .i32 r, .int .i32 2, K, .nilIface, E]]) := by
  refine Tri.into (n := 75) (al := [(Value.agg #[(Value.int .i64 2), (Value.int .i64 r), (Value.string key), (Value.string en), (Value.int .i64 n), (Value.string val), (Value.bool true)])]) Try.func36 rfl Try.ntmps36 rfl rfl fun w F H => ?_
  replace H : Holds w (ro R :: F) := H
  refine C_seq (fun K1_ hK1_ => ?_)
  refine C_reg ?_
  refine S_list (T_box (v := (Value.agg #[(Value.int .i64 2), (Value.int .i64 r), (Value.string key), (Value.string en), (Value.int .i64 n), (Value.string val), (Value.bool true)])) rfl H ?_)
  intro b2_ w3_ S5_ H4_
  replace H4_ : Holds w3_ (cl b2_ 31 [(Value.int .i64 2), (Value.int .i64 r), (Value.string key), (Value.string en), (Value.int .i64 n), (Value.string val), (Value.bool true)] :: ro R :: F) := H4_
  have S6_ := Same.trans (Same.refl w) S5_
  refine S_list (T_val (v := (Value.pointer none)) (x_assign rfl) ?_)
  refine wpList_nil ?_
  refine (X_then (hK1_ _ _ ?_))
  clear hK1_
  refine C_seq (fun K7_ hK7_ => ?_)
  refine A_start (S := fun w => Rd b2_ [(Value.int .i64 2), (Value.int .i64 r), (Value.string key), (Value.string en), (Value.int .i64 n), (Value.string val), (Value.bool true)] w ∧ Sub R (hp w)) (N := 15) foll rfl rfl ?_
  have H9_ : Holds w3_.drew (cl b2_ 31 [(Value.int .i64 2), (Value.int .i64 r), (Value.string key), (Value.string en), (Value.int .i64 n), (Value.string val), (Value.bool true)] :: ro R :: F) := H4_
  refine A_take 0 (ls' := #[true, false, false, false, false, false, false, false, false, false, false, false, false, false, false]) (v := (Value.pointer (some ⟨b2_, 1, none⟩))) rfl (by kernel_rfl) (by kernel_rfl) (by kernel_rfl) (by kernel_rfl) (fun _ _ _ h => h) (fun w hS => by kernel_rfl) ⟨Holds.rd H9_ 0 rfl, Holds.ro_at H9_ 1 rfl⟩ ?_
  refine A_take 1 (ls' := #[true, true, false, false, false, false, false, false, false, false, false, false, false, false, false]) (v := (Value.int .i64 r)) rfl (by kernel_rfl) (by kernel_rfl) (by kernel_rfl) (by kernel_rfl) (fun _ _ _ h => h) (fun w hS => x_load1 rfl Try.underlying3 rfl (hS.1 1 (Value.int .i64 r) rfl)) ⟨Holds.rd H9_ 0 rfl, Holds.ro_at H9_ 1 rfl⟩ ?_
  refine A_take 3 (ls' := #[true, true, false, true, false, false, false, false, false, false, false, false, false, false, false]) (v := (Value.pointer (some ⟨b2_, 0, none⟩))) rfl (by kernel_rfl) (by kernel_rfl) (by kernel_rfl) (by kernel_rfl) (fun _ _ _ h => h) (fun w hS => by kernel_rfl) ⟨Holds.rd H9_ 0 rfl, Holds.ro_at H9_ 1 rfl⟩ ?_
  refine A_take 4 (ls' := #[true, true, false, true, true, false, false, false, false, false, false, false, false, false, false]) (v := (Value.int .i64 2)) rfl (by kernel_rfl) (by kernel_rfl) (by kernel_rfl) (by kernel_rfl) (fun _ _ _ h => h) (fun w hS => x_load1 rfl Try.underlying3 rfl (hS.1 0 (Value.int .i64 2) rfl)) ⟨Holds.rd H9_ 0 rfl, Holds.ro_at H9_ 1 rfl⟩ ?_
  refine A_take 6 (ls' := #[true, true, false, true, true, false, true, false, false, false, false, false, false, false, false]) (v := (Value.pointer (some ⟨b2_, 2, none⟩))) rfl (by kernel_rfl) (by kernel_rfl) (by kernel_rfl) (by kernel_rfl) (fun _ _ _ h => h) (fun w hS => by kernel_rfl) ⟨Holds.rd H9_ 0 rfl, Holds.ro_at H9_ 1 rfl⟩ ?_
  refine A_take 7 (ls' := #[true, true, false, true, true, false, true, true, false, false, false, false, false, false, false]) (v := (Value.string key)) rfl (by kernel_rfl) (by kernel_rfl) (by kernel_rfl) (by kernel_rfl) (fun _ _ _ h => h) (fun w hS => x_load1 rfl Try.underlying9 rfl (hS.1 2 (Value.string key) rfl)) ⟨Holds.rd H9_ 0 rfl, Holds.ro_at H9_ 1 rfl⟩ ?_
  refine A_take 9 (ls' := #[true, true, false, true, true, false, true, true, false, true, false, false, false, false, false]) (v := (Value.pointer (some ⟨b2_, 3, none⟩))) rfl (by kernel_rfl) (by kernel_rfl) (by kernel_rfl) (by kernel_rfl) (fun _ _ _ h => h) (fun w hS => by kernel_rfl) ⟨Holds.rd H9_ 0 rfl, Holds.ro_at H9_ 1 rfl⟩ ?_
  refine A_take 10 (ls' := #[true, true, false, true, true, false, true, true, false, true, true, false, false, false, false]) (v := (Value.string en)) rfl (by kernel_rfl) (by kernel_rfl) (by kernel_rfl) (by kernel_rfl) (fun _ _ _ h => h) (fun w hS => x_load1 rfl Try.underlying9 rfl (hS.1 3 (Value.string en) rfl)) ⟨Holds.rd H9_ 0 rfl, Holds.ro_at H9_ 1 rfl⟩ ?_
  refine A_ready (i := 2) (rs := [8]) (by kernel_rfl) ?_
  refine AllR.cons ?_ ?_
  · skip
    have H10_ : Holds w3_.drew (ro R :: cl b2_ 31 [(Value.int .i64 2), (Value.int .i64 r), (Value.string key), (Value.string en), (Value.int .i64 n), (Value.string val), (Value.bool true)] :: F) := (Holds.bring H9_ 1 rfl)
    refine A_op (ls' := #[true, true, true, true, true, false, true, true, false, true, true, false, false, false, false]) rfl (by kernel_rfl) (T_call (al := [(Value.int .i64 r)]) (pre := []) (F := cl b2_ 31 [(Value.int .i64 2), (Value.int .i64 r), (Value.string key), (Value.string en), (Value.int .i64 n), (Value.string val), (Value.bool true)] :: F) rfl rfl cb61 (ordSmall R r (by omega) (by omega)) H10_ ?_)
    rintro v14_ p15_ w11_ ⟨rfl, rfl⟩ S13_ H12_
    replace H12_ : Holds w11_ (ro R :: cl b2_ 31 [(Value.int .i64 2), (Value.int .i64 r), (Value.string key), (Value.string en), (Value.int .i64 n), (Value.string val), (Value.bool true)] :: F) := H12_
    have S16_ := Same.trans (Same.trans S6_ (Same.drew _)) S13_
    refine ⟨⟨Holds.rd H12_ 1 rfl, Holds.ro_at H12_ 0 rfl⟩, ?_⟩
    refine A_ready (i := 5) (rs := [8]) (by kernel_rfl) ?_
    refine AllR.cons ?_ ?_
    · skip
      refine A_op (ls' := #[true, true, true, true, true, true, true, true, false, true, true, false, false, false, false]) rfl (by kernel_rfl) (T_call (al := [(Value.int .i64 2)]) (pre := []) (F := cl b2_ 31 [(Value.int .i64 2), (Value.int .i64 r), (Value.string key), (Value.string en), (Value.int .i64 n), (Value.string val), (Value.bool true)] :: F) rfl rfl cb61 (ordSmall R 2 (by omega) (by omega)) H12_ ?_)
      rintro v20_ p21_ w17_ ⟨rfl, rfl⟩ S19_ H18_
      replace H18_ : Holds w17_ (ro R :: cl b2_ 31 [(Value.int .i64 2), (Value.int .i64 r), (Value.string key), (Value.string en), (Value.int .i64 n), (Value.string val), (Value.bool true)] :: F) := H18_
      have S22_ := Same.trans S16_ S19_
      refine ⟨⟨Holds.rd H18_ 1 rfl, Holds.ro_at H18_ 0 rfl⟩, ?_⟩
      refine A_ready (i := 8) (rs := [11]) (by kernel_rfl) ?_
      refine AllR.cons ?_ ?_
      · skip
        refine A_op (ls' := #[true, true, true, true, true, true, true, true, true, true, true, false, false, false, false]) rfl (by kernel_rfl) (T_s2b rfl Try.underlying9 Try.underlying25 Try.underlying5 H18_ ?_)
        intro b23_ cp24_ w25_ S27_ hc28_ H26_
        have S29_ := Same.trans S22_ S27_
        have H30_ : Holds w25_ (sl 5 1 (Value.slice (some ⟨b23_, 0, none⟩) key.size cp24_) key.size (bytesV (ints key)) :: ro R :: cl b2_ 31 [(Value.int .i64 2), (Value.int .i64 r), (Value.string key), (Value.string en), (Value.int .i64 n), (Value.string val), (Value.bool true)] :: F) := cast2 (P := fun (c__ : List Value) (k__ : Nat) => Holds w25_ (sl 5 1 (Value.slice (some ⟨b23_, 0, none⟩) key.size cp24_) k__ c__ :: ro R :: cl b2_ 31 [(Value.int .i64 2), (Value.int .i64 r), (Value.string key), (Value.string en), (Value.int .i64 n), (Value.string val), (Value.bool true)] :: F)) (byteCells_bytesV _ : byteCells key = bytesV (ints key)) (rfl : key.size = key.size) H26_
        refine ⟨⟨Holds.rd H30_ 2 rfl, Holds.ro_at H30_ 1 rfl⟩, ?_⟩
        refine A_ready (i := 11) (rs := []) (by kernel_rfl) ?_
        refine AllR.cons ?_ AllR.nil
        have H31_ : Holds w25_ (ro R :: sl 5 1 (Value.slice (some ⟨b23_, 0, none⟩) key.size cp24_) key.size (bytesV (ints key)) :: cl b2_ 31 [(Value.int .i64 2), (Value.int .i64 r), (Value.string key), (Value.string en), (Value.int .i64 n), (Value.string val), (Value.bool true)] :: F) := (Holds.bring H30_ 1 rfl)
        refine A_op (ls' := #[true, true, true, true, true, true, true, true, true, true, true, true, false, false, false]) rfl (by kernel_rfl) (T_call (al := [(Value.string en)]) (pre := []) (F := sl 5 1 (Value.slice (some ⟨b23_, 0, none⟩) key.size cp24_) key.size (bytesV (ints key)) :: cl b2_ 31 [(Value.int .i64 2), (Value.int .i64 r), (Value.string key), (Value.string en), (Value.int .i64 n), (Value.string val), (Value.bool true)] :: F) rfl rfl cb62 (bytesOfC R en) H31_ ?_)
        rintro v35_ p36_ w32_ rfl S34_ H33_
        replace H33_ : Holds w32_ (ro R :: sl 5 1 v35_ en.size (bytesV (ints en)) :: sl 5 1 (Value.slice (some ⟨b23_, 0, none⟩) key.size cp24_) key.size (bytesV (ints key)) :: cl b2_ 31 [(Value.int .i64 2), (Value.int .i64 r), (Value.string key), (Value.string en), (Value.int .i64 n), (Value.string val), (Value.bool true)] :: F) := H33_
        have S37_ := Same.trans S29_ S34_
        obtain ⟨-, a38_, cp39_, rfl, hle40_⟩ := Holds.sl_len H33_ 1 rfl
        refine ⟨⟨Holds.rd H33_ 3 rfl, Holds.ro_at H33_ 0 rfl⟩, ?_⟩
        refine A_take 12 (ls' := #[true, true, true, true, true, true, true, true, true, true, true, true, true, false, false]) (v := (Value.agg #[(Value.int .i32 r), (Value.int .i32 2), (Value.slice (some ⟨b23_, 0, none⟩) key.size cp24_), (Value.nilIface), (Value.slice a38_ en.size cp39_)])) rfl (by kernel_rfl) (by kernel_rfl) (by kernel_rfl) (by kernel_rfl) (fun _ _ _ h => h) (fun w hS => by kernel_rfl) ⟨Holds.rd H33_ 3 rfl, Holds.ro_at H33_ 0 rfl⟩ ?_
        refine A_ready (i := 13) (rs := []) (by kernel_rfl) ?_
        refine AllR.cons ?_ AllR.nil
        refine A_op (ls' := #[true, true, true, true, true, true, true, true, true, true, true, true, true, true, false]) rfl (by kernel_rfl) (T_box (v := (Value.agg #[(Value.int .i32 r), (Value.int .i32 2), (Value.slice (some ⟨b23_, 0, none⟩) key.size cp24_), (Value.nilIface), (Value.slice a38_ en.size cp39_)])) rfl H33_ ?_)
        intro b41_ w42_ S44_ H43_
        replace H43_ : Holds w42_ (cl b41_ 106 [(Value.int .i32 r), (Value.int .i32 2), (Value.slice (some ⟨b23_, 0, none⟩) key.size cp24_), (Value.nilIface), (Value.slice a38_ en.size cp39_)] :: ro R :: sl 5 1 (Value.slice a38_ en.size cp39_) en.size (bytesV (ints en)) :: sl 5 1 (Value.slice (some ⟨b23_, 0, none⟩) key.size cp24_) key.size (bytesV (ints key)) :: cl b2_ 31 [(Value.int .i64 2), (Value.int .i64 r), (Value.string key), (Value.string en), (Value.int .i64 n), (Value.string val), (Value.bool true)] :: F) := H43_
        have S45_ := Same.trans S37_ S44_
        refine ⟨⟨Holds.rd H43_ 4 rfl, Holds.ro_at H43_ 1 rfl⟩, ?_⟩
        refine A_take 14 (ls' := #[true, true, true, true, true, true, true, true, true, true, true, true, true, true, true]) (v := (Value.pointer (some ⟨b41_, 0, none⟩))) rfl (by kernel_rfl) (by kernel_rfl) (by kernel_rfl) (by kernel_rfl) (fun _ _ _ h => h) (fun w hS => x_assign rfl) ⟨Holds.rd H43_ 4 rfl, Holds.ro_at H43_ 1 rfl⟩ ?_
        refine A_done (by kernel_rfl) ?_
        refine (X_then (hK7_ _ _ ?_))
        clear hK7_
        refine C_seq (fun K46_ hK46_ => ?_)
        refine C_seq (fun K47_ hK47_ => ?_)
        refine C_reg ?_
        refine S_list (T_val (v := (Value.pointer (some ⟨b2_, 6, none⟩))) (by kernel_rfl) ?_)
        refine S_list (T_val (v := (Value.bool true)) (x_load1 rfl Try.underlying4 rfl ((Holds.rd H43_ 4 rfl) 6 (Value.bool true) rfl)) ?_)
        refine wpList_nil ?_
        refine (X_then (hK47_ _ _ ?_))
        clear hK47_
        refine C_condT rfl ?_
        refine C_seq (fun K48_ hK48_ => ?_)
        refine C_reg ?_
        refine S_list (T_val (v := (Value.pointer (some ⟨b41_, 0, none⟩))) (x_move rfl) ?_)
        refine S_list (T_val (v := (Value.pointer (some ⟨b41_, 0, none⟩))) (x_assign rfl) ?_)
        refine wpList_nil ?_
        refine (X_then (hK48_ _ _ ?_))
        clear hK48_
        refine C_ret (X_thenR ?_)
        refine R_any (v := (Value.pointer (some ⟨b41_, 0, none⟩))) (run_results1 rfl rfl) ?_
        have H49_ : Holds w42_ (ro R :: cl b41_ 106 [(Value.int .i32 r), (Value.int .i32 2), (Value.slice (some ⟨b23_, 0, none⟩) key.size cp24_), (Value.nilIface), (Value.slice a38_ en.size cp39_)] :: F) := (Holds.erase (Holds.erase (Holds.erase (Holds.bring (Holds.bring H43_ 0 rfl) 1 rfl) 2) 2) 2)
        exact ⟨_, [cl b41_ 106 [(Value.int .i32 r), (Value.int .i32 2), (Value.slice (some ⟨b23_, 0, none⟩) key.size cp24_), (Value.nilIface), (Value.slice a38_ en.size cp39_)]], rfl, ⟨b41_, (Value.slice (some ⟨b23_, 0, none⟩) key.size cp24_), (Value.slice a38_ en.size cp39_), rfl, rfl⟩, S45_, H49_⟩
      refine AllR.cons ?_ AllR.nil
      refine A_op (ls' := #[true, true, true, true, true, true, true, true, false, true, true, true, false, false, false]) rfl (by kernel_rfl) (T_call (al := [(Value.string en)]) (pre := []) (F := cl b2_ 31 [(Value.int .i64 2), (Value.int .i64 r), (Value.string key), (Value.string en), (Value.int .i64 n), (Value.string val), (Value.bool true)] :: F) rfl rfl cb62 (bytesOfC R en) H18_ ?_)
      rintro v53_ p54_ w50_ rfl S52_ H51_
      replace H51_ : Holds w50_ (ro R :: sl 5 1 v53_ en.size (bytesV (ints en)) :: cl b2_ 31 [(Value.int .i64 2), (Value.int .i64 r), (Value.string key), (Value.string en), (Value.int .i64 n), (Value.string val), (Value.bool true)] :: F) := H51_
      have S55_ := Same.trans S22_ S52_
      obtain ⟨-, a56_, cp57_, rfl, hle58_⟩ := Holds.sl_len H51_ 1 rfl
      refine ⟨⟨Holds.rd H51_ 2 rfl, Holds.ro_at H51_ 0 rfl⟩, ?_⟩
      refine A_ready (i := 8) (rs := []) (by kernel_rfl) ?_
      refine AllR.cons ?_ AllR.nil
      refine A_op (ls' := #[true, true, true, true, true, true, true, true, true, true, true, true, false, false, false]) rfl (by kernel_rfl) (T_s2b rfl Try.underlying9 Try.underlying25 Try.underlying5 H51_ ?_)
      intro b59_ cp60_ w61_ S63_ hc64_ H62_
      have S65_ := Same.trans S55_ S63_
      have H66_ : Holds w61_ (sl 5 1 (Value.slice (some ⟨b59_, 0, none⟩) key.size cp60_) key.size (bytesV (ints key)) :: ro R :: sl 5 1 (Value.slice a56_ en.size cp57_) en.size (bytesV (ints en)) :: cl b2_ 31 [(Value.int .i64 2), (Value.int .i64 r), (Value.string key), (Value.string en), (Value.int .i64 n), (Value.string val), (Value.bool true)] :: F) := cast2 (P := fun (c__ : List Value) (k__ : Nat) => Holds w61_ (sl 5 1 (Value.slice (some ⟨b59_, 0, none⟩) key.size cp60_) k__ c__ :: ro R :: sl 5 1 (Value.slice a56_ en.size cp57_) en.size (bytesV (ints en)) :: cl b2_ 31 [(Value.int .i64 2), (Value.int .i64 r), (Value.string key), (Value.string en), (Value.int .i64 n), (Value.string val), (Value.bool true)] :: F)) (byteCells_bytesV _ : byteCells key = bytesV (ints key)) (rfl : key.size = key.size) H62_
      refine ⟨⟨Holds.rd H66_ 3 rfl, Holds.ro_at H66_ 1 rfl⟩, ?_⟩
      refine A_take 12 (ls' := #[true, true, true, true, true, true, true, true, true, true, true, true, true, false, false]) (v := (Value.agg #[(Value.int .i32 r), (Value.int .i32 2), (Value.slice (some ⟨b59_, 0, none⟩) key.size cp60_), (Value.nilIface), (Value.slice a56_ en.size cp57_)])) rfl (by kernel_rfl) (by kernel_rfl) (by kernel_rfl) (by kernel_rfl) (fun _ _ _ h => h) (fun w hS => by kernel_rfl) ⟨Holds.rd H66_ 3 rfl, Holds.ro_at H66_ 1 rfl⟩ ?_
      refine A_ready (i := 13) (rs := []) (by kernel_rfl) ?_
      refine AllR.cons ?_ AllR.nil
      refine A_op (ls' := #[true, true, true, true, true, true, true, true, true, true, true, true, true, true, false]) rfl (by kernel_rfl) (T_box (v := (Value.agg #[(Value.int .i32 r), (Value.int .i32 2), (Value.slice (some ⟨b59_, 0, none⟩) key.size cp60_), (Value.nilIface), (Value.slice a56_ en.size cp57_)])) rfl H66_ ?_)
      intro b67_ w68_ S70_ H69_
      replace H69_ : Holds w68_ (cl b67_ 106 [(Value.int .i32 r), (Value.int .i32 2), (Value.slice (some ⟨b59_, 0, none⟩) key.size cp60_), (Value.nilIface), (Value.slice a56_ en.size cp57_)] :: sl 5 1 (Value.slice (some ⟨b59_, 0, none⟩) key.size cp60_) key.size (bytesV (ints key)) :: ro R :: sl 5 1 (Value.slice a56_ en.size cp57_) en.size (bytesV (ints en)) :: cl b2_ 31 [(Value.int .i64 2), (Value.int .i64 r), (Value.string key), (Value.string en), (Value.int .i64 n), (Value.string val), (Value.bool true)] :: F) := H69_
      have S71_ := Same.trans S65_ S70_
      refine ⟨⟨Holds.rd H69_ 4 rfl, Holds.ro_at H69_ 2 rfl⟩, ?_⟩
      refine A_take 14 (ls' := #[true, true, true, true, true, true, true, true, true, true, true, true, true, true, true]) (v := (Value.pointer (some ⟨b67_, 0, none⟩))) rfl (by kernel_rfl) (by kernel_rfl) (by kernel_rfl) (by kernel_rfl) (fun _ _ _ h => h) (fun w hS => x_assign rfl) ⟨Holds.rd H69_ 4 rfl, Holds.ro_at H69_ 2 rfl⟩ ?_
      refine A_done (by kernel_rfl) ?_
      refine (X_then (hK7_ _ _ ?_))
      clear hK7_
      refine C_seq (fun K72_ hK72_ => ?_)
      refine C_seq (fun K73_ hK73_ => ?_)
      refine C_reg ?_
      refine S_list (T_val (v := (Value.pointer (some ⟨b2_, 6, none⟩))) (by kernel_rfl) ?_)
      refine S_list (T_val (v := (Value.bool true)) (x_load1 rfl Try.underlying4 rfl ((Holds.rd H69_ 4 rfl) 6 (Value.bool true) rfl)) ?_)
      refine wpList_nil ?_
      refine (X_then (hK73_ _ _ ?_))
      clear hK73_
      refine C_condT rfl ?_
      refine C_seq (fun K74_ hK74_ => ?_)
      refine C_reg ?_
      refine S_list (T_val (v := (Value.pointer (some ⟨b67_, 0, none⟩))) (x_move rfl) ?_)
      refine S_list (T_val (v := (Value.pointer (some ⟨b67_, 0, none⟩))) (x_assign rfl) ?_)
      refine wpList_nil ?_
      refine (X_then (hK74_ _ _ ?_))
      clear hK74_
      refine C_ret (X_thenR ?_)
      refine R_any (v := (Value.pointer (some ⟨b67_, 0, none⟩))) (run_results1 rfl rfl) ?_
      have H75_ : Holds w68_ (ro R :: cl b67_ 106 [(Value.int .i32 r), (Value.int .i32 2), (Value.slice (some ⟨b59_, 0, none⟩) key.size cp60_), (Value.nilIface), (Value.slice a56_ en.size cp57_)] :: F) := (Holds.erase (Holds.erase (Holds.erase (Holds.bring (Holds.bring H69_ 0 rfl) 2 rfl) 2) 2) 2)
      exact ⟨_, [cl b67_ 106 [(Value.int .i32 r), (Value.int .i32 2), (Value.slice (some ⟨b59_, 0, none⟩) key.size cp60_), (Value.nilIface), (Value.slice a56_ en.size cp57_)]], rfl, ⟨b67_, (Value.slice (some ⟨b59_, 0, none⟩) key.size cp60_), (Value.slice a56_ en.size cp57_), rfl, rfl⟩, S71_, H75_⟩
    refine AllR.cons ?_ AllR.nil
    refine A_op (ls' := #[true, true, true, true, true, false, true, true, true, true, true, false, false, false, false]) rfl (by kernel_rfl) (T_s2b rfl Try.underlying9 Try.underlying25 Try.underlying5 H12_ ?_)
    intro b76_ cp77_ w78_ S80_ hc81_ H79_
    have S82_ := Same.trans S16_ S80_
    have H83_ : Holds w78_ (sl 5 1 (Value.slice (some ⟨b76_, 0, none⟩) key.size cp77_) key.size (bytesV (ints key)) :: ro R :: cl b2_ 31 [(Value.int .i64 2), (Value.int .i64 r), (Value.string key), (Value.string en), (Value.int .i64 n), (Value.string val), (Value.bool true)] :: F) := cast2 (P := fun (c__ : List Value) (k__ : Nat) => Holds w78_ (sl 5 1 (Value.slice (some ⟨b76_, 0, none⟩) key.size cp77_) k__ c__ :: ro R :: cl b2_ 31 [(Value.int .i64 2), (Value.int .i64 r), (Value.string key), (Value.string en), (Value.int .i64 n), (Value.string val), (Value.bool true)] :: F)) (byteCells_bytesV _ : byteCells key = bytesV (ints key)) (rfl : key.size = key.size) H79_
    refine ⟨⟨Holds.rd H83_ 2 rfl, Holds.ro_at H83_ 1 rfl⟩, ?_⟩
    refine A_ready (i := 5) (rs := []) (by kernel_rfl) ?_
    refine AllR.cons ?_ AllR.nil
    have H84_ : Holds w78_ (ro R :: sl 5 1 (Value.slice (some ⟨b76_, 0, none⟩) key.size cp77_) key.size (bytesV (ints key)) :: cl b2_ 31 [(Value.int .i64 2), (Value.int .i64 r), (Value.string key), (Value.string en), (Value.int .i64 n), (Value.string val), (Value.bool true)] :: F) := (Holds.bring H83_ 1 rfl)
    refine A_op (ls' := #[true, true, true, true, true, true, true, true, true, true, true, false, false, false, false]) rfl (by kernel_rfl) (T_call (al := [(Value.int .i64 2)]) (pre := []) (F := sl 5 1 (Value.slice (some ⟨b76_, 0, none⟩) key.size cp77_) key.size (bytesV (ints key)) :: cl b2_ 31 [(Value.int .i64 2), (Value.int .i64 r), (Value.string key), (Value.string en), (Value.int .i64 n), (Value.string val), (Value.bool true)] :: F) rfl rfl cb61 (ordSmall R 2 (by omega) (by omega)) H84_ ?_)
    rintro v88_ p89_ w85_ ⟨rfl, rfl⟩ S87_ H86_
    replace H86_ : Holds w85_ (ro R :: sl 5 1 (Value.slice (some ⟨b76_, 0, none⟩) key.size cp77_) key.size (bytesV (ints key)) :: cl b2_ 31 [(Value.int .i64 2), (Value.int .i64 r), (Value.string key), (Value.string en), (Value.int .i64 n), (Value.string val), (Value.bool true)] :: F) := H86_
    have S90_ := Same.trans S82_ S87_
    refine ⟨⟨Holds.rd H86_ 2 rfl, Holds.ro_at H86_ 0 rfl⟩, ?_⟩
    refine A_ready (i := 11) (rs := []) (by kernel_rfl) ?_
    refine AllR.cons ?_ AllR.nil
    refine A_op (ls' := #[true, true, true, true, true, true, true, true, true, true, true, true, false, false, false]) rfl (by kernel_rfl) (T_call (al := [(Value.string en)]) (pre := []) (F := sl 5 1 (Value.slice (some ⟨b76_, 0, none⟩) key.size cp77_) key.size (bytesV (ints key)) :: cl b2_ 31 [(Value.int .i64 2), (Value.int .i64 r), (Value.string key), (Value.string en), (Value.int .i64 n), (Value.string val), (Value.bool true)] :: F) rfl rfl cb62 (bytesOfC R en) H86_ ?_)
    rintro v94_ p95_ w91_ rfl S93_ H92_
    replace H92_ : Holds w91_ (ro R :: sl 5 1 v94_ en.size (bytesV (ints en)) :: sl 5 1 (Value.slice (some ⟨b76_, 0, none⟩) key.size cp77_) key.size (bytesV (ints key)) :: cl b2_ 31 [(Value.int .i64 2), (Value.int .i64 r), (Value.string key), (Value.string en), (Value.int .i64 n), (Value.string val), (Value.bool true)] :: F) := H92_
    have S96_ := Same.trans S90_ S93_
    obtain ⟨-, a97_, cp98_, rfl, hle99_⟩ := Holds.sl_len H92_ 1 rfl
    refine ⟨⟨Holds.rd H92_ 3 rfl, Holds.ro_at H92_ 0 rfl⟩, ?_⟩
    refine A_take 12 (ls' := #[true, true, true, true, true, true, true, true, true, true, true, true, true, false, false]) (v := (Value.agg #[(Value.int .i32 r), (Value.int .i32 2), (Value.slice (some ⟨b76_, 0, none⟩) key.size cp77_), (Value.nilIface), (Value.slice a97_ en.size cp98_)])) rfl (by kernel_rfl) (by kernel_rfl) (by kernel_rfl) (by kernel_rfl) (fun _ _ _ h => h) (fun w hS => by kernel_rfl) ⟨Holds.rd H92_ 3 rfl, Holds.ro_at H92_ 0 rfl⟩ ?_
    refine A_ready (i := 13) (rs := []) (by kernel_rfl) ?_
    refine AllR.cons ?_ AllR.nil
    refine A_op (ls' := #[true, true, true, true, true, true, true, true, true, true, true, true, true, true, false]) rfl (by kernel_rfl) (T_box (v := (Value.agg #[(Value.int .i32 r), (Value.int .i32 2), (Value.slice (some ⟨b76_, 0, none⟩) key.size cp77_), (Value.nilIface), (Value.slice a97_ en.size cp98_)])) rfl H92_ ?_)
    intro b100_ w101_ S103_ H102_
    replace H102_ : Holds w101_ (cl b100_ 106 [(Value.int .i32 r), (Value.int .i32 2), (Value.slice (some ⟨b76_, 0, none⟩) key.size cp77_), (Value.nilIface), (Value.slice a97_ en.size cp98_)] :: ro R :: sl 5 1 (Value.slice a97_ en.size cp98_) en.size (bytesV (ints en)) :: sl 5 1 (Value.slice (some ⟨b76_, 0, none⟩) key.size cp77_) key.size (bytesV (ints key)) :: cl b2_ 31 [(Value.int .i64 2), (Value.int .i64 r), (Value.string key), (Value.string en), (Value.int .i64 n), (Value.string val), (Value.bool true)] :: F) := H102_
    have S104_ := Same.trans S96_ S103_
    refine ⟨⟨Holds.rd H102_ 4 rfl, Holds.ro_at H102_ 1 rfl⟩, ?_⟩
    refine A_take 14 (ls' := #[true, true, true, true, true, true, true, true, true, true, true, true, true, true, true]) (v := (Value.pointer (some ⟨b100_, 0, none⟩))) rfl (by kernel_rfl) (by kernel_rfl) (by kernel_rfl) (by kernel_rfl) (fun _ _ _ h => h) (fun w hS => x_assign rfl) ⟨Holds.rd H102_ 4 rfl, Holds.ro_at H102_ 1 rfl⟩ ?_
    refine A_done (by kernel_rfl) ?_
    refine (X_then (hK7_ _ _ ?_))
    clear hK7_
    refine C_seq (fun K105_ hK105_ => ?_)
    refine C_seq (fun K106_ hK106_ => ?_)
    refine C_reg ?_
    refine S_list (T_val (v := (Value.pointer (some ⟨b2_, 6, none⟩))) (by kernel_rfl) ?_)
    refine S_list (T_val (v := (Value.bool true)) (x_load1 rfl Try.underlying4 rfl ((Holds.rd H102_ 4 rfl) 6 (Value.bool true) rfl)) ?_)
    refine wpList_nil ?_
    refine (X_then (hK106_ _ _ ?_))
    clear hK106_
    refine C_condT rfl ?_
    refine C_seq (fun K107_ hK107_ => ?_)
    refine C_reg ?_
    refine S_list (T_val (v := (Value.pointer (some ⟨b100_, 0, none⟩))) (x_move rfl) ?_)
    refine S_list (T_val (v := (Value.pointer (some ⟨b100_, 0, none⟩))) (x_assign rfl) ?_)
    refine wpList_nil ?_
    refine (X_then (hK107_ _ _ ?_))
    clear hK107_
    refine C_ret (X_thenR ?_)
    refine R_any (v := (Value.pointer (some ⟨b100_, 0, none⟩))) (run_results1 rfl rfl) ?_
    have H108_ : Holds w101_ (ro R :: cl b100_ 106 [(Value.int .i32 r), (Value.int .i32 2), (Value.slice (some ⟨b76_, 0, none⟩) key.size cp77_), (Value.nilIface), (Value.slice a97_ en.size cp98_)] :: F) := (Holds.erase (Holds.erase (Holds.erase (Holds.bring (Holds.bring H102_ 0 rfl) 1 rfl) 2) 2) 2)
    exact ⟨_, [cl b100_ 106 [(Value.int .i32 r), (Value.int .i32 2), (Value.slice (some ⟨b76_, 0, none⟩) key.size cp77_), (Value.nilIface), (Value.slice a97_ en.size cp98_)]], rfl, ⟨b100_, (Value.slice (some ⟨b76_, 0, none⟩) key.size cp77_), (Value.slice a97_ en.size cp98_), rfl, rfl⟩, S104_, H108_⟩
  refine AllR.cons ?_ AllR.nil
  refine A_op (ls' := #[true, true, false, true, true, false, true, true, true, true, true, false, false, false, false]) rfl (by kernel_rfl) (T_s2b rfl Try.underlying9 Try.underlying25 Try.underlying5 H9_ ?_)
  intro b109_ cp110_ w111_ S113_ hc114_ H112_
  have S115_ := Same.trans (Same.trans S6_ (Same.drew _)) S113_
  have H116_ : Holds w111_ (sl 5 1 (Value.slice (some ⟨b109_, 0, none⟩) key.size cp110_) key.size (bytesV (ints key)) :: cl b2_ 31 [(Value.int .i64 2), (Value.int .i64 r), (Value.string key), (Value.string en), (Value.int .i64 n), (Value.string val), (Value.bool true)] :: ro R :: F) := cast2 (P := fun (c__ : List Value) (k__ : Nat) => Holds w111_ (sl 5 1 (Value.slice (some ⟨b109_, 0, none⟩) key.size cp110_) k__ c__ :: cl b2_ 31 [(Value.int .i64 2), (Value.int .i64 r), (Value.string key), (Value.string en), (Value.int .i64 n), (Value.string val), (Value.bool true)] :: ro R :: F)) (byteCells_bytesV _ : byteCells key = bytesV (ints key)) (rfl : key.size = key.size) H112_
  refine ⟨⟨Holds.rd H116_ 1 rfl, Holds.ro_at H116_ 2 rfl⟩, ?_⟩
  refine A_ready (i := 2) (rs := []) (by kernel_rfl) ?_
  refine AllR.cons ?_ AllR.nil
  have H117_ : Holds w111_ (ro R :: sl 5 1 (Value.slice (some ⟨b109_, 0, none⟩) key.size cp110_) key.size (bytesV (ints key)) :: cl b2_ 31 [(Value.int .i64 2), (Value.int .i64 r), (Value.string key), (Value.string en), (Value.int .i64 n), (Value.string val), (Value.bool true)] :: F) := (Holds.bring H116_ 2 rfl)
  refine A_op (ls' := #[true, true, true, true, true, false, true, true, true, true, true, false, false, false, false]) rfl (by kernel_rfl) (T_call (al := [(Value.int .i64 r)]) (pre := []) (F := sl 5 1 (Value.slice (some ⟨b109_, 0, none⟩) key.size cp110_) key.size (bytesV (ints key)) :: cl b2_ 31 [(Value.int .i64 2), (Value.int .i64 r), (Value.string key), (Value.string en), (Value.int .i64 n), (Value.string val), (Value.bool true)] :: F) rfl rfl cb61 (ordSmall R r (by omega) (by omega)) H117_ ?_)
  rintro v121_ p122_ w118_ ⟨rfl, rfl⟩ S120_ H119_
  replace H119_ : Holds w118_ (ro R :: sl 5 1 (Value.slice (some ⟨b109_, 0, none⟩) key.size cp110_) key.size (bytesV (ints key)) :: cl b2_ 31 [(Value.int .i64 2), (Value.int .i64 r), (Value.string key), (Value.string en), (Value.int .i64 n), (Value.string val), (Value.bool true)] :: F) := H119_
  have S123_ := Same.trans S115_ S120_
  refine ⟨⟨Holds.rd H119_ 2 rfl, Holds.ro_at H119_ 0 rfl⟩, ?_⟩
  refine A_ready (i := 5) (rs := []) (by kernel_rfl) ?_
  refine AllR.cons ?_ AllR.nil
  refine A_op (ls' := #[true, true, true, true, true, true, true, true, true, true, true, false, false, false, false]) rfl (by kernel_rfl) (T_call (al := [(Value.int .i64 2)]) (pre := []) (F := sl 5 1 (Value.slice (some ⟨b109_, 0, none⟩) key.size cp110_) key.size (bytesV (ints key)) :: cl b2_ 31 [(Value.int .i64 2), (Value.int .i64 r), (Value.string key), (Value.string en), (Value.int .i64 n), (Value.string val), (Value.bool true)] :: F) rfl rfl cb61 (ordSmall R 2 (by omega) (by omega)) H119_ ?_)
  rintro v127_ p128_ w124_ ⟨rfl, rfl⟩ S126_ H125_
  replace H125_ : Holds w124_ (ro R :: sl 5 1 (Value.slice (some ⟨b109_, 0, none⟩) key.size cp110_) key.size (bytesV (ints key)) :: cl b2_ 31 [(Value.int .i64 2), (Value.int .i64 r), (Value.string key), (Value.string en), (Value.int .i64 n), (Value.string val), (Value.bool true)] :: F) := H125_
  have S129_ := Same.trans S123_ S126_
  refine ⟨⟨Holds.rd H125_ 2 rfl, Holds.ro_at H125_ 0 rfl⟩, ?_⟩
  refine A_ready (i := 11) (rs := []) (by kernel_rfl) ?_
  refine AllR.cons ?_ AllR.nil
  refine A_op (ls' := #[true, true, true, true, true, true, true, true, true, true, true, true, false, false, false]) rfl (by kernel_rfl) (T_call (al := [(Value.string en)]) (pre := []) (F := sl 5 1 (Value.slice (some ⟨b109_, 0, none⟩) key.size cp110_) key.size (bytesV (ints key)) :: cl b2_ 31 [(Value.int .i64 2), (Value.int .i64 r), (Value.string key), (Value.string en), (Value.int .i64 n), (Value.string val), (Value.bool true)] :: F) rfl rfl cb62 (bytesOfC R en) H125_ ?_)
  rintro v133_ p134_ w130_ rfl S132_ H131_
  replace H131_ : Holds w130_ (ro R :: sl 5 1 v133_ en.size (bytesV (ints en)) :: sl 5 1 (Value.slice (some ⟨b109_, 0, none⟩) key.size cp110_) key.size (bytesV (ints key)) :: cl b2_ 31 [(Value.int .i64 2), (Value.int .i64 r), (Value.string key), (Value.string en), (Value.int .i64 n), (Value.string val), (Value.bool true)] :: F) := H131_
  have S135_ := Same.trans S129_ S132_
  obtain ⟨-, a136_, cp137_, rfl, hle138_⟩ := Holds.sl_len H131_ 1 rfl
  refine ⟨⟨Holds.rd H131_ 3 rfl, Holds.ro_at H131_ 0 rfl⟩, ?_⟩
  refine A_take 12 (ls' := #[true, true, true, true, true, true, true, true, true, true, true, true, true, false, false]) (v := (Value.agg #[(Value.int .i32 r), (Value.int .i32 2), (Value.slice (some ⟨b109_, 0, none⟩) key.size cp110_), (Value.nilIface), (Value.slice a136_ en.size cp137_)])) rfl (by kernel_rfl) (by kernel_rfl) (by kernel_rfl) (by kernel_rfl) (fun _ _ _ h => h) (fun w hS => by kernel_rfl) ⟨Holds.rd H131_ 3 rfl, Holds.ro_at H131_ 0 rfl⟩ ?_
  refine A_ready (i := 13) (rs := []) (by kernel_rfl) ?_
  refine AllR.cons ?_ AllR.nil
  refine A_op (ls' := #[true, true, true, true, true, true, true, true, true, true, true, true, true, true, false]) rfl (by kernel_rfl) (T_box (v := (Value.agg #[(Value.int .i32 r), (Value.int .i32 2), (Value.slice (some ⟨b109_, 0, none⟩) key.size cp110_), (Value.nilIface), (Value.slice a136_ en.size cp137_)])) rfl H131_ ?_)
  intro b139_ w140_ S142_ H141_
  replace H141_ : Holds w140_ (cl b139_ 106 [(Value.int .i32 r), (Value.int .i32 2), (Value.slice (some ⟨b109_, 0, none⟩) key.size cp110_), (Value.nilIface), (Value.slice a136_ en.size cp137_)] :: ro R :: sl 5 1 (Value.slice a136_ en.size cp137_) en.size (bytesV (ints en)) :: sl 5 1 (Value.slice (some ⟨b109_, 0, none⟩) key.size cp110_) key.size (bytesV (ints key)) :: cl b2_ 31 [(Value.int .i64 2), (Value.int .i64 r), (Value.string key), (Value.string en), (Value.int .i64 n), (Value.string val), (Value.bool true)] :: F) := H141_
  have S143_ := Same.trans S135_ S142_
  refine ⟨⟨Holds.rd H141_ 4 rfl, Holds.ro_at H141_ 1 rfl⟩, ?_⟩
  refine A_take 14 (ls' := #[true, true, true, true, true, true, true, true, true, true, true, true, true, true, true]) (v := (Value.pointer (some ⟨b139_, 0, none⟩))) rfl (by kernel_rfl) (by kernel_rfl) (by kernel_rfl) (by kernel_rfl) (fun _ _ _ h => h) (fun w hS => x_assign rfl) ⟨Holds.rd H141_ 4 rfl, Holds.ro_at H141_ 1 rfl⟩ ?_
  refine A_done (by kernel_rfl) ?_
  refine (X_then (hK7_ _ _ ?_))
  clear hK7_
  refine C_seq (fun K144_ hK144_ => ?_)
  refine C_seq (fun K145_ hK145_ => ?_)
  refine C_reg ?_
  refine S_list (T_val (v := (Value.pointer (some ⟨b2_, 6, none⟩))) (by kernel_rfl) ?_)
  refine S_list (T_val (v := (Value.bool true)) (x_load1 rfl Try.underlying4 rfl ((Holds.rd H141_ 4 rfl) 6 (Value.bool true) rfl)) ?_)
  refine wpList_nil ?_
  refine (X_then (hK145_ _ _ ?_))
  clear hK145_
  refine C_condT rfl ?_
  refine C_seq (fun K146_ hK146_ => ?_)
  refine C_reg ?_
  refine S_list (T_val (v := (Value.pointer (some ⟨b139_, 0, none⟩))) (x_move rfl) ?_)
  refine S_list (T_val (v := (Value.pointer (some ⟨b139_, 0, none⟩))) (x_assign rfl) ?_)
  refine wpList_nil ?_
  refine (X_then (hK146_ _ _ ?_))
  clear hK146_
  refine C_ret (X_thenR ?_)
  refine R_any (v := (Value.pointer (some ⟨b139_, 0, none⟩))) (run_results1 rfl rfl) ?_
  have H147_ : Holds w140_ (ro R :: cl b139_ 106 [(Value.int .i32 r), (Value.int .i32 2), (Value.slice (some ⟨b109_, 0, none⟩) key.size cp110_), (Value.nilIface), (Value.slice a136_ en.size cp137_)] :: F) := (Holds.erase (Holds.erase (Holds.erase (Holds.bring (Holds.bring H141_ 0 rfl) 1 rfl) 2) 2) 2)
  exact ⟨_, [cl b139_ 106 [(Value.int .i32 r), (Value.int .i32 2), (Value.slice (some ⟨b109_, 0, none⟩) key.size cp110_), (Value.nilIface), (Value.slice a136_ en.size cp137_)]], rfl, ⟨b139_, (Value.slice (some ⟨b109_, 0, none⟩) key.size cp110_), (Value.slice a136_ en.size cp137_), rfl, rfl⟩, S143_, H147_⟩

set_option maxHeartbeats 400000 in
theorem cmpIn2f (R : HP) (r : Int) (key en : ByteArray) (n : Int) (val : ByteArray) (h0 : 0 ≤ r) (h1 : r ≤ 3) :
    Tri Try.prog 36 #[(Value.agg #[(Value.int .i64 2), (Value.int .i64 r), (Value.string key), (Value.string en), (Value.int .i64 n), (Value.string val), (Value.bool false)])] R [] (fun v post => ∃ c u K E, v = .pointer (some ⟨c, 0, none⟩) ∧ post = [cl c 106 [.int .i32 r, .int .i32 2, K, .iface 113 (.pointer (some ⟨u, 0, none⟩)), E], cl u 115 [.int .i64 n]]) := by
  refine Tri.into (n := 75) (al := [(Value.agg #[(Value.int .i64 2), (Value.int .i64 r), (Value.string key), (Value.string en), (Value.int .i64 n), (Value.string val), (Value.bool false)])]) Try.func36 rfl Try.ntmps36 rfl rfl fun w F H => ?_
  replace H : Holds w (ro R :: F) := H
  refine C_seq (fun K1_ hK1_ => ?_)
  refine C_reg ?_
  refine S_list (T_box (v := (Value.agg #[(Value.int .i64 2), (Value.int .i64 r), (Value.string key), (Value.string en), (Value.int .i64 n), (Value.string val), (Value.bool false)])) rfl H ?_)
  intro b2_ w3_ S5_ H4_
  replace H4_ : Holds w3_ (cl b2_ 31 [(Value.int .i64 2), (Value.int .i64 r), (Value.string key), (Value.string en), (Value.int .i64 n), (Value.string val), (Value.bool false)] :: ro R :: F) := H4_
  have S6_ := Same.trans (Same.refl w) S5_
  refine S_list (T_val (v := (Value.pointer none)) (x_assign rfl) ?_)
  refine wpList_nil ?_
  refine (X_then (hK1_ _ _ ?_))
  clear hK1_
  refine C_seq (fun K7_ hK7_ => ?_)
  refine A_start (S := fun w => Rd b2_ [(Value.int .i64 2), (Value.int .i64 r), (Value.string key), (Value.string en), (Value.int .i64 n), (Value.string val), (Value.bool false)] w ∧ Sub R (hp w)) (N := 15) foll rfl rfl ?_
  have H9_ : Holds w3_.drew (cl b2_ 31 [(Value.int .i64 2), (Value.int .i64 r), (Value.string key), (Value.string en), (Value.int .i64 n), (Value.string val), (Value.bool false)] :: ro R :: F) := H4_
  refine A_take 0 (ls' := #[true, false, false, false, false, false, false, false, false, false, false, false, false, false, false]) (v := (Value.pointer (some ⟨b2_, 1, none⟩))) rfl (by kernel_rfl) (by kernel_rfl) (by kernel_rfl) (by kernel_rfl) (fun _ _ _ h => h) (fun w hS => by kernel_rfl) ⟨Holds.rd H9_ 0 rfl, Holds.ro_at H9_ 1 rfl⟩ ?_
  refine A_take 1 (ls' := #[true, true, false, false, false, false, false, false, false, false, false, false, false, false, false]) (v := (Value.int .i64 r)) rfl (by kernel_rfl) (by kernel_rfl) (by kernel_rfl) (by kernel_rfl) (fun _ _ _ h => h) (fun w hS => x_load1 rfl Try.underlying3 rfl (hS.1 1 (Value.int .i64 r) rfl)) ⟨Holds.rd H9_ 0 rfl, Holds.ro_at H9_ 1 rfl⟩ ?_
  refine A_take 3 (ls' := #[true, true, false, true, false, false, false, false, false, false, false, false, false, false, false]) (v := (Value.pointer (some ⟨b2_, 0, none⟩))) rfl (by kernel_rfl) (by kernel_rfl) (by kernel_rfl) (by kernel_rfl) (fun _ _ _ h => h) (fun w hS => by kernel_rfl) ⟨Holds.rd H9_ 0 rfl, Holds.ro_at H9_ 1 rfl⟩ ?_
  refine A_take 4 (ls' := #[true, true, false, true, true, false, false, false, false, false, false, false, false, false, false]) (v := (Value.int .i64 2)) rfl (by kernel_rfl) (by kernel_rfl) (by kernel_rfl) (by kernel_rfl) (fun _ _ _ h => h) (fun w hS => x_load1 rfl Try.underlying3 rfl (hS.1 0 (Value.int .i64 2) rfl)) ⟨Holds.rd H9_ 0 rfl, Holds.ro_at H9_ 1 rfl⟩ ?_
  refine A_take 6 (ls' := #[true, true, false, true, true, false, true, false, false, false, false, false, false, false, false]) (v := (Value.pointer (some ⟨b2_, 2, none⟩))) rfl (by kernel_rfl) (by kernel_rfl) (by kernel_rfl) (by kernel_rfl) (fun _ _ _ h => h) (fun w hS => by kernel_rfl) ⟨Holds.rd H9_ 0 rfl, Holds.ro_at H9_ 1 rfl⟩ ?_
  refine A_take 7 (ls' := #[true, true, false, true, true, false, true, true, false, false, false, false, false, false, false]) (v := (Value.string key)) rfl (by kernel_rfl) (by kernel_rfl) (by kernel_rfl) (by kernel_rfl) (fun _ _ _ h => h) (fun w hS => x_load1 rfl Try.underlying9 rfl (hS.1 2 (Value.string key) rfl)) ⟨Holds.rd H9_ 0 rfl, Holds.ro_at H9_ 1 rfl⟩ ?_
  refine A_take 9 (ls' := #[true, true, false, true, true, false, true, true, false, true, false, false, false, false, false]) (v := (Value.pointer (some ⟨b2_, 3, none⟩))) rfl (by kernel_rfl) (by kernel_rfl) (by kernel_rfl) (by kernel_rfl) (fun _ _ _ h => h) (fun w hS => by kernel_rfl) ⟨Holds.rd H9_ 0 rfl, Holds.ro_at H9_ 1 rfl⟩ ?_
  refine A_take 10 (ls' := #[true, true, false, true, true, false, true, true, false, true, true, false, false, false, false]) (v := (Value.string en)) rfl (by kernel_rfl) (by kernel_rfl) (by kernel_rfl) (by kernel_rfl) (fun _ _ _ h => h) (fun w hS => x_load1 rfl Try.underlying9 rfl (hS.1 3 (Value.string en) rfl)) ⟨Holds.rd H9_ 0 rfl, Holds.ro_at H9_ 1 rfl⟩ ?_
  refine A_ready (i := 2) (rs := [8]) (by kernel_rfl) ?_
  refine AllR.cons ?_ ?_
  · skip
    have H10_ : Holds w3_.drew (ro R :: cl b2_ 31 [(Value.int .i64 2), (Value.int .i64 r), (Value.string key), (Value.string en), (Value.int .i64 n), (Value.string val), (Value.bool false)] :: F) := (Holds.bring H9_ 1 rfl)
    refine A_op (ls' := #[true, true, true, true, true, false, true, true, false, true, true, false, false, false, false]) rfl (by kernel_rfl) (T_call (al := [(Value.int .i64 r)]) (pre := []) (F := cl b2_ 31 [(Value.int .i64 2), (Value.int .i64 r), (Value.string key), (Value.string en), (Value.int .i64 n), (Value.string val), (Value.bool false)] :: F) rfl rfl cb61 (ordSmall R r (by omega) (by omega)) H10_ ?_)
    rintro v14_ p15_ w11_ ⟨rfl, rfl⟩ S13_ H12_
    replace H12_ : Holds w11_ (ro R :: cl b2_ 31 [(Value.int .i64 2), (Value.int .i64 r), (Value.string key), (Value.string en), (Value.int .i64 n), (Value.string val), (Value.bool false)] :: F) := H12_
    have S16_ := Same.trans (Same.trans S6_ (Same.drew _)) S13_
    refine ⟨⟨Holds.rd H12_ 1 rfl, Holds.ro_at H12_ 0 rfl⟩, ?_⟩
    refine A_ready (i := 5) (rs := [8]) (by kernel_rfl) ?_
    refine AllR.cons ?_ ?_
    · skip
      refine A_op (ls' := #[true, true, true, true, true, true, true, true, false, true, true, false, false, false, false]) rfl (by kernel_rfl) (T_call (al := [(Value.int .i64 2)]) (pre := []) (F := cl b2_ 31 [(Value.int .i64 2), (Value.int .i64 r), (Value.string key), (Value.string en), (Value.int .i64 n), (Value.string val), (Value.bool false)] :: F) rfl rfl cb61 (ordSmall R 2 (by omega) (by omega)) H12_ ?_)
      rintro v20_ p21_ w17_ ⟨rfl, rfl⟩ S19_ H18_
      replace H18_ : Holds w17_ (ro R :: cl b2_ 31 [(Value.int .i64 2), (Value.int .i64 r), (Value.string key), (Value.string en), (Value.int .i64 n), (Value.string val), (Value.bool false)] :: F) := H18_
      have S22_ := Same.trans S16_ S19_
      refine ⟨⟨Holds.rd H18_ 1 rfl, Holds.ro_at H18_ 0 rfl⟩, ?_⟩
      refine A_ready (i := 8) (rs := [11]) (by kernel_rfl) ?_
      refine AllR.cons ?_ ?_
      · skip
        refine A_op (ls' := #[true, true, true, true, true, true, true, true, true, true, true, false, false, false, false]) rfl (by kernel_rfl) (T_s2b rfl Try.underlying9 Try.underlying25 Try.underlying5 H18_ ?_)
        intro b23_ cp24_ w25_ S27_ hc28_ H26_
        have S29_ := Same.trans S22_ S27_
        have H30_ : Holds w25_ (sl 5 1 (Value.slice (some ⟨b23_, 0, none⟩) key.size cp24_) key.size (bytesV (ints key)) :: ro R :: cl b2_ 31 [(Value.int .i64 2), (Value.int .i64 r), (Value.string key), (Value.string en), (Value.int .i64 n), (Value.string val), (Value.bool false)] :: F) := cast2 (P := fun (c__ : List Value) (k__ : Nat) => Holds w25_ (sl 5 1 (Value.slice (some ⟨b23_, 0, none⟩) key.size cp24_) k__ c__ :: ro R :: cl b2_ 31 [(Value.int .i64 2), (Value.int .i64 r), (Value.string key), (Value.string en), (Value.int .i64 n), (Value.string val), (Value.bool false)] :: F)) (byteCells_bytesV _ : byteCells key = bytesV (ints key)) (rfl : key.size = key.size) H26_
        refine ⟨⟨Holds.rd H30_ 2 rfl, Holds.ro_at H30_ 1 rfl⟩, ?_⟩
        refine A_ready (i := 11) (rs := []) (by kernel_rfl) ?_
        refine AllR.cons ?_ AllR.nil
        have H31_ : Holds w25_ (ro R :: sl 5 1 (Value.slice (some ⟨b23_, 0, none⟩) key.size cp24_) key.size (bytesV (ints key)) :: cl b2_ 31 [(Value.int .i64 2), (Value.int .i64 r), (Value.string key), (Value.string en), (Value.int .i64 n), (Value.string val), (Value.bool false)] :: F) := (Holds.bring H30_ 1 rfl)
        refine A_op (ls' := #[true, true, true, true, true, true, true, true, true, true, true, true, false, false, false]) rfl (by kernel_rfl) (T_call (al := [(Value.string en)]) (pre := []) (F := sl 5 1 (Value.slice (some ⟨b23_, 0, none⟩) key.size cp24_) key.size (bytesV (ints key)) :: cl b2_ 31 [(Value.int .i64 2), (Value.int .i64 r), (Value.string key), (Value.string en), (Value.int .i64 n), (Value.string val), (Value.bool false)] :: F) rfl rfl cb62 (bytesOfC R en) H31_ ?_)
        rintro v35_ p36_ w32_ rfl S34_ H33_
        replace H33_ : Holds w32_ (ro R :: sl 5 1 v35_ en.size (bytesV (ints en)) :: sl 5 1 (Value.slice (some ⟨b23_, 0, none⟩) key.size cp24_) key.size (bytesV (ints key)) :: cl b2_ 31 [(Value.int .i64 2), (Value.int .i64 r), (Value.string key), (Value.string en), (Value.int .i64 n), (Value.string val), (Value.bool false)] :: F) := H33_
        have S37_ := Same.trans S29_ S34_
        obtain ⟨-, a38_, cp39_, rfl, hle40_⟩ := Holds.sl_len H33_ 1 rfl
        refine ⟨⟨Holds.rd H33_ 3 rfl, Holds.ro_at H33_ 0 rfl⟩, ?_⟩
        refine A_take 12 (ls' := #[true, true, true, true, true, true, true, true, true, true, true, true, true, false, false]) (v := (Value.agg #[(Value.int .i32 r), (Value.int .i32 2), (Value.slice (some ⟨b23_, 0, none⟩) key.size cp24_), (Value.nilIface), (Value.slice a38_ en.size cp39_)])) rfl (by kernel_rfl) (by kernel_rfl) (by kernel_rfl) (by kernel_rfl) (fun _ _ _ h => h) (fun w hS => by kernel_rfl) ⟨Holds.rd H33_ 3 rfl, Holds.ro_at H33_ 0 rfl⟩ ?_
        refine A_ready (i := 13) (rs := []) (by kernel_rfl) ?_
        refine AllR.cons ?_ AllR.nil
        refine A_op (ls' := #[true, true, true, true, true, true, true, true, true, true, true, true, true, true, false]) rfl (by kernel_rfl) (T_box (v := (Value.agg #[(Value.int .i32 r), (Value.int .i32 2), (Value.slice (some ⟨b23_, 0, none⟩) key.size cp24_), (Value.nilIface), (Value.slice a38_ en.size cp39_)])) rfl H33_ ?_)
        intro b41_ w42_ S44_ H43_
        replace H43_ : Holds w42_ (cl b41_ 106 [(Value.int .i32 r), (Value.int .i32 2), (Value.slice (some ⟨b23_, 0, none⟩) key.size cp24_), (Value.nilIface), (Value.slice a38_ en.size cp39_)] :: ro R :: sl 5 1 (Value.slice a38_ en.size cp39_) en.size (bytesV (ints en)) :: sl 5 1 (Value.slice (some ⟨b23_, 0, none⟩) key.size cp24_) key.size (bytesV (ints key)) :: cl b2_ 31 [(Value.int .i64 2), (Value.int .i64 r), (Value.string key), (Value.string en), (Value.int .i64 n), (Value.string val), (Value.bool false)] :: F) := H43_
        have S45_ := Same.trans S37_ S44_
        refine ⟨⟨Holds.rd H43_ 4 rfl, Holds.ro_at H43_ 1 rfl⟩, ?_⟩
        refine A_take 14 (ls' := #[true, true, true, true, true, true, true, true, true, true, true, true, true, true, true]) (v := (Value.pointer (some ⟨b41_, 0, none⟩))) rfl (by kernel_rfl) (by kernel_rfl) (by kernel_rfl) (by kernel_rfl) (fun _ _ _ h => h) (fun w hS => x_assign rfl) ⟨Holds.rd H43_ 4 rfl, Holds.ro_at H43_ 1 rfl⟩ ?_
        refine A_done (by kernel_rfl) ?_
        refine (X_then (hK7_ _ _ ?_))
        clear hK7_
        refine C_seq (fun K46_ hK46_ => ?_)
        refine C_seq (fun K47_ hK47_ => ?_)
        refine C_reg ?_
        refine S_list (T_val (v := (Value.pointer (some ⟨b2_, 6, none⟩))) (by kernel_rfl) ?_)
        refine S_list (T_val (v := (Value.bool false)) (x_load1 rfl Try.underlying4 rfl ((Holds.rd H43_ 4 rfl) 6 (Value.bool false) rfl)) ?_)
        refine wpList_nil ?_
        refine (X_then (hK47_ _ _ ?_))
        clear hK47_
        refine C_condF rfl ?_
        refine C_skip (X_then (hK46_ _ _ ?_))
        clear hK46_
        refine C_seq (fun K48_ hK48_ => ?_)
        refine C_seq (fun K49_ hK49_ => ?_)
        refine C_reg ?_
        refine S_list (T_val (v := (Value.pointer (some ⟨b2_, 0, none⟩))) (by kernel_rfl) ?_)
        refine S_list (T_val (v := (Value.int .i64 2)) (x_load1 rfl Try.underlying3 rfl ((Holds.rd H43_ 4 rfl) 0 (Value.int .i64 2) rfl)) ?_)
        refine wpList_nil ?_
        refine (X_then (hK49_ _ _ ?_))
        clear hK49_
        refine C_block ?_
        refine C_seq (fun K50_ hK50_ => ?_)
        refine C_reg ?_
        refine S_list (T_val (v := (Value.bool false)) (x_bin rfl rfl rfl) ?_)
        refine S_list (T_val (v := (Value.bool false)) (x_assign rfl) ?_)
        refine wpList_nil ?_
        refine (X_then (hK50_ _ _ ?_))
        clear hK50_
        refine C_condF rfl ?_
        refine C_seq (fun K51_ hK51_ => ?_)
        refine C_reg ?_
        refine S_list (T_val (v := (Value.bool false)) (x_bin rfl rfl rfl) ?_)
        refine S_list (T_val (v := (Value.bool false)) (x_assign rfl) ?_)
        refine wpList_nil ?_
        refine (X_then (hK51_ _ _ ?_))
        clear hK51_
        refine C_condF rfl ?_
        refine C_seq (fun K52_ hK52_ => ?_)
        refine C_reg ?_
        refine S_list (T_val (v := (Value.bool true)) (x_bin rfl rfl rfl) ?_)
        refine S_list (T_val (v := (Value.bool true)) (x_assign rfl) ?_)
        refine wpList_nil ?_
        refine (X_then (hK52_ _ _ ?_))
        clear hK52_
        refine C_condT rfl ?_
        refine C_reg ?_
        refine S_list (T_val (v := (Value.pointer (some ⟨b41_, 0, none⟩))) (x_move rfl) ?_)
        refine S_list (T_val (v := (Value.pointer (some ⟨b2_, 4, none⟩))) (by kernel_rfl) ?_)
        refine S_list (T_val (v := (Value.int .i64 n)) (x_load1 rfl Try.underlying2 rfl ((Holds.rd H43_ 4 rfl) 4 (Value.int .i64 n) rfl)) ?_)
        refine S_list (T_val (v := (Value.agg #[(Value.int .i64 n)])) (by kernel_rfl) ?_)
        refine S_list (T_box (v := (Value.agg #[(Value.int .i64 n)])) rfl H43_ ?_)
        intro b53_ w54_ S56_ H55_
        replace H55_ : Holds w54_ (cl b53_ 115 [(Value.int .i64 n)] :: cl b41_ 106 [(Value.int .i32 r), (Value.int .i32 2), (Value.slice (some ⟨b23_, 0, none⟩) key.size cp24_), (Value.nilIface), (Value.slice a38_ en.size cp39_)] :: ro R :: sl 5 1 (Value.slice a38_ en.size cp39_) en.size (bytesV (ints en)) :: sl 5 1 (Value.slice (some ⟨b23_, 0, none⟩) key.size cp24_) key.size (bytesV (ints key)) :: cl b2_ 31 [(Value.int .i64 2), (Value.int .i64 r), (Value.string key), (Value.string en), (Value.int .i64 n), (Value.string val), (Value.bool false)] :: F) := H55_
        have S57_ := Same.trans S45_ S56_
        refine S_list (T_val (v := (Value.iface 113 (Value.pointer (some ⟨b53_, 0, none⟩)))) (by kernel_rfl) ?_)
        refine S_list (T_val (v := (Value.pointer (some ⟨b41_, 0, none⟩))) (by kernel_rfl) ?_)
        refine S_list (T_val (v := (Value.pointer (some ⟨b41_, 3, none⟩))) (by kernel_rfl) ?_)
        refine S_list0 (T_store1 (v := (Value.iface 113 (Value.pointer (some ⟨b53_, 0, none⟩)))) rfl rfl z20 rfl H55_ 1 rfl (Nat.le_of_ble_eq_true (by rfl)) ?_)
        intro w58_ S60_ H59_
        replace H59_ : Holds w58_ (cl b53_ 115 [(Value.int .i64 n)] :: cl b41_ 106 [(Value.int .i32 r), (Value.int .i32 2), (Value.slice (some ⟨b23_, 0, none⟩) key.size cp24_), (Value.iface 113 (Value.pointer (some ⟨b53_, 0, none⟩))), (Value.slice a38_ en.size cp39_)] :: ro R :: sl 5 1 (Value.slice a38_ en.size cp39_) en.size (bytesV (ints en)) :: sl 5 1 (Value.slice (some ⟨b23_, 0, none⟩) key.size cp24_) key.size (bytesV (ints key)) :: cl b2_ 31 [(Value.int .i64 2), (Value.int .i64 r), (Value.string key), (Value.string en), (Value.int .i64 n), (Value.string val), (Value.bool false)] :: F) := H59_
        have S61_ := Same.trans S57_ S60_
        refine wpList_nil ?_
        refine (X_blkN (X_then (hK48_ _ _ ?_)))
        clear hK48_
        refine C_seq (fun K62_ hK62_ => ?_)
        refine C_reg ?_
        refine S_list (T_val (v := (Value.pointer (some ⟨b41_, 0, none⟩))) (x_move rfl) ?_)
        refine S_list (T_val (v := (Value.pointer (some ⟨b41_, 0, none⟩))) (x_assign rfl) ?_)
        refine wpList_nil ?_
        refine (X_then (hK62_ _ _ ?_))
        clear hK62_
        refine C_ret ?_
        refine R_any (v := (Value.pointer (some ⟨b41_, 0, none⟩))) (run_results1 rfl rfl) ?_
        have H63_ : Holds w58_ (ro R :: cl b41_ 106 [(Value.int .i32 r), (Value.int .i32 2), (Value.slice (some ⟨b23_, 0, none⟩) key.size cp24_), (Value.iface 113 (Value.pointer (some ⟨b53_, 0, none⟩))), (Value.slice a38_ en.size cp39_)] :: cl b53_ 115 [(Value.int .i64 n)] :: F) := (Holds.erase (Holds.erase (Holds.erase (Holds.bring (Holds.bring (Holds.bring H59_ 0 rfl) 1 rfl) 2 rfl) 3) 3) 3)
        exact ⟨_, [cl b41_ 106 [(Value.int .i32 r), (Value.int .i32 2), (Value.slice (some ⟨b23_, 0, none⟩) key.size cp24_), (Value.iface 113 (Value.pointer (some ⟨b53_, 0, none⟩))), (Value.slice a38_ en.size cp39_)], cl b53_ 115 [(Value.int .i64 n)]], rfl, ⟨b41_, b53_, (Value.slice (some ⟨b23_, 0, none⟩) key.size cp24_), (Value.slice a38_ en.size cp39_), rfl, rfl⟩, S61_, H63_⟩
      refine AllR.cons ?_ AllR.nil
      refine A_op (ls' := #[true, true, true, true, true, true, true, true, false, true, true, true, false, false, false]) rfl (by kernel_rfl) (T_call (al := [(Value.string en)]) (pre := []) (F := cl b2_ 31 [(Value.int .i64 2), (Value.int .i64 r), (Value.string key), (Value.string en), (Value.int .i64 n), (Value.string val), (Value.bool false)] :: F) rfl rfl cb62 (bytesOfC R en) H18_ ?_)
      rintro v67_ p68_ w64_ rfl S66_ H65_
      replace H65_ : Holds w64_ (ro R :: sl 5 1 v67_ en.size (bytesV (ints en)) :: cl b2_ 31 [(Value.int .i64 2), (Value.int .i64 r), (Value.string key), (Value.string en), (Value.int .i64 n), (Value.string val), (Value.bool false)] :: F) := H65_
      have S69_ := Same.trans S22_ S66_
      obtain ⟨-, a70_, cp71_, rfl, hle72_⟩ := Holds.sl_len H65_ 1 rfl
      refine ⟨⟨Holds.rd H65_ 2 rfl, Holds.ro_at H65_ 0 rfl⟩, ?_⟩
      refine A_ready (i := 8) (rs := []) (by kernel_rfl) ?_
      refine AllR.cons ?_ AllR.nil
      refine A_op (ls' := #[true, true, true, true, true, true, true, true, true, true, true, true, false, false, false]) rfl (by kernel_rfl) (T_s2b rfl Try.underlying9 Try.underlying25 Try.underlying5 H65_ ?_)
      intro b73_ cp74_ w75_ S77_ hc78_ H76_
      have S79_ := Same.trans S69_ S77_
      have H80_ : Holds w75_ (sl 5 1 (Value.slice (some ⟨b73_, 0, none⟩) key.size cp74_) key.size (bytesV (ints key)) :: ro R :: sl 5 1 (Value.slice a70_ en.size cp71_) en.size (bytesV (ints en)) :: cl b2_ 31 [(Value.int .i64 2), (Value.int .i64 r), (Value.string key), (Value.string en), (Value.int .i64 n), (Value.string val), (Value.bool false)] :: F) := cast2 (P := fun (c__ : List Value) (k__ : Nat) => Holds w75_ (sl 5 1 (Value.slice (some ⟨b73_, 0, none⟩) key.size cp74_) k__ c__ :: ro R :: sl 5 1 (Value.slice a70_ en.size cp71_) en.size (bytesV (ints en)) :: cl b2_ 31 [(Value.int .i64 2), (Value.int .i64 r), (Value.string key), (Value.string en), (Value.int .i64 n), (Value.string val), (Value.bool false)] :: F)) (byteCells_bytesV _ : byteCells key = bytesV (ints key)) (rfl : key.size = key.size) H76_
      refine ⟨⟨Holds.rd H80_ 3 rfl, Holds.ro_at H80_ 1 rfl⟩, ?_⟩
      refine A_take 12 (ls' := #[true, true, true, true, true, true, true, true, true, true, true, true, true, false, false]) (v := (Value.agg #[(Value.int .i32 r), (Value.int .i32 2), (Value.slice (some ⟨b73_, 0, none⟩) key.size cp74_), (Value.nilIface), (Value.slice a70_ en.size cp71_)])) rfl (by kernel_rfl) (by kernel_rfl) (by kernel_rfl) (by kernel_rfl) (fun _ _ _ h => h) (fun w hS => by kernel_rfl) ⟨Holds.rd H80_ 3 rfl, Holds.ro_at H80_ 1 rfl⟩ ?_
      refine A_ready (i := 13) (rs := []) (by kernel_rfl) ?_
      refine AllR.cons ?_ AllR.nil
      refine A_op (ls' := #[true, true, true, true, true, true, true, true, true, true, true, true, true, true, false]) rfl (by kernel_rfl) (T_box (v := (Value.agg #[(Value.int .i32 r), (Value.int .i32 2), (Value.slice (some ⟨b73_, 0, none⟩) key.size cp74_), (Value.nilIface), (Value.slice a70_ en.size cp71_)])) rfl H80_ ?_)
      intro b81_ w82_ S84_ H83_
      replace H83_ : Holds w82_ (cl b81_ 106 [(Value.int .i32 r), (Value.int .i32 2), (Value.slice (some ⟨b73_, 0, none⟩) key.size cp74_), (Value.nilIface), (Value.slice a70_ en.size cp71_)] :: sl 5 1 (Value.slice (some ⟨b73_, 0, none⟩) key.size cp74_) key.size (bytesV (ints key)) :: ro R :: sl 5 1 (Value.slice a70_ en.size cp71_) en.size (bytesV (ints en)) :: cl b2_ 31 [(Value.int .i64 2), (Value.int .i64 r), (Value.string key), (Value.string en), (Value.int .i64 n), (Value.string val), (Value.bool false)] :: F) := H83_
      have S85_ := Same.trans S79_ S84_
      refine ⟨⟨Holds.rd H83_ 4 rfl, Holds.ro_at H83_ 2 rfl⟩, ?_⟩
      refine A_take 14 (ls' := #[true, true, true, true, true, true, true, true, true, true, true, true, true, true, true]) (v := (Value.pointer (some ⟨b81_, 0, none⟩))) rfl (by kernel_rfl) (by kernel_rfl) (by kernel_rfl) (by kernel_rfl) (fun _ _ _ h => h) (fun w hS => x_assign rfl) ⟨Holds.rd H83_ 4 rfl, Holds.ro_at H83_ 2 rfl⟩ ?_
      refine A_done (by kernel_rfl) ?_
      refine (X_then (hK7_ _ _ ?_))
      clear hK7_
      refine C_seq (fun K86_ hK86_ => ?_)
      refine C_seq (fun K87_ hK87_ => ?_)
      refine C_reg ?_
      refine S_list (T_val (v := (Value.pointer (some ⟨b2_, 6, none⟩))) (by kernel_rfl) ?_)
      refine S_list (T_val (v := (Value.bool false)) (x_load1 rfl Try.underlying4 rfl ((Holds.rd H83_ 4 rfl) 6 (Value.bool false) rfl)) ?_)
      refine wpList_nil ?_
      refine (X_then (hK87_ _ _ ?_))
      clear hK87_
      refine C_condF rfl ?_
      refine C_skip (X_then (hK86_ _ _ ?_))
      clear hK86_
      refine C_seq (fun K88_ hK88_ => ?_)
      refine C_seq (fun K89_ hK89_ => ?_)
      refine C_reg ?_
      refine S_list (T_val (v := (Value.pointer (some ⟨b2_, 0, none⟩))) (by kernel_rfl) ?_)
      refine S_list (T_val (v := (Value.int .i64 2)) (x_load1 rfl Try.underlying3 rfl ((Holds.rd H83_ 4 rfl) 0 (Value.int .i64 2) rfl)) ?_)
      refine wpList_nil ?_
      refine (X_then (hK89_ _ _ ?_))
      clear hK89_
      refine C_block ?_
      refine C_seq (fun K90_ hK90_ => ?_)
      refine C_reg ?_
      refine S_list (T_val (v := (Value.bool false)) (x_bin rfl rfl rfl) ?_)
      refine S_list (T_val (v := (Value.bool false)) (x_assign rfl) ?_)
      refine wpList_nil ?_
      refine (X_then (hK90_ _ _ ?_))
      clear hK90_
      refine C_condF rfl ?_
      refine C_seq (fun K91_ hK91_ => ?_)
      refine C_reg ?_
      refine S_list (T_val (v := (Value.bool false)) (x_bin rfl rfl rfl) ?_)
      refine S_list (T_val (v := (Value.bool false)) (x_assign rfl) ?_)
      refine wpList_nil ?_
      refine (X_then (hK91_ _ _ ?_))
      clear hK91_
      refine C_condF rfl ?_
      refine C_seq (fun K92_ hK92_ => ?_)
      refine C_reg ?_
      refine S_list (T_val (v := (Value.bool true)) (x_bin rfl rfl rfl) ?_)
      refine S_list (T_val (v := (Value.bool true)) (x_assign rfl) ?_)
      refine wpList_nil ?_
      refine (X_then (hK92_ _ _ ?_))
      clear hK92_
      refine C_condT rfl ?_
      refine C_reg ?_
      refine S_list (T_val (v := (Value.pointer (some ⟨b81_, 0, none⟩))) (x_move rfl) ?_)
      refine S_list (T_val (v := (Value.pointer (some ⟨b2_, 4, none⟩))) (by kernel_rfl) ?_)
      refine S_list (T_val (v := (Value.int .i64 n)) (x_load1 rfl Try.underlying2 rfl ((Holds.rd H83_ 4 rfl) 4 (Value.int .i64 n) rfl)) ?_)
      refine S_list (T_val (v := (Value.agg #[(Value.int .i64 n)])) (by kernel_rfl) ?_)
      refine S_list (T_box (v := (Value.agg #[(Value.int .i64 n)])) rfl H83_ ?_)
      intro b93_ w94_ S96_ H95_
      replace H95_ : Holds w94_ (cl b93_ 115 [(Value.int .i64 n)] :: cl b81_ 106 [(Value.int .i32 r), (Value.int .i32 2), (Value.slice (some ⟨b73_, 0, none⟩) key.size cp74_), (Value.nilIface), (Value.slice a70_ en.size cp71_)] :: sl 5 1 (Value.slice (some ⟨b73_, 0, none⟩) key.size cp74_) key.size (bytesV (ints key)) :: ro R :: sl 5 1 (Value.slice a70_ en.size cp71_) en.size (bytesV (ints en)) :: cl b2_ 31 [(Value.int .i64 2), (Value.int .i64 r), (Value.string key), (Value.string en), (Value.int .i64 n), (Value.string val), (Value.bool false)] :: F) := H95_
      have S97_ := Same.trans S85_ S96_
      refine S_list (T_val (v := (Value.iface 113 (Value.pointer (some ⟨b93_, 0, none⟩)))) (by kernel_rfl) ?_)
      refine S_list (T_val (v := (Value.pointer (some ⟨b81_, 0, none⟩))) (by kernel_rfl) ?_)
      refine S_list (T_val (v := (Value.pointer (some ⟨b81_, 3, none⟩))) (by kernel_rfl) ?_)
      refine S_list0 (T_store1 (v := (Value.iface 113 (Value.pointer (some ⟨b93_, 0, none⟩)))) rfl rfl z20 rfl H95_ 1 rfl (Nat.le_of_ble_eq_true (by rfl)) ?_)
      intro w98_ S100_ H99_
      replace H99_ : Holds w98_ (cl b93_ 115 [(Value.int .i64 n)] :: cl b81_ 106 [(Value.int .i32 r), (Value.int .i32 2), (Value.slice (some ⟨b73_, 0, none⟩) key.size cp74_), (Value.iface 113 (Value.pointer (some ⟨b93_, 0, none⟩))), (Value.slice a70_ en.size cp71_)] :: sl 5 1 (Value.slice (some ⟨b73_, 0, none⟩) key.size cp74_) key.size (bytesV (ints key)) :: ro R :: sl 5 1 (Value.slice a70_ en.size cp71_) en.size (bytesV (ints en)) :: cl b2_ 31 [(Value.int .i64 2), (Value.int .i64 r), (Value.string key), (Value.string en), (Value.int .i64 n), (Value.string val), (Value.bool false)] :: F) := H99_
      have S101_ := Same.trans S97_ S100_
      refine wpList_nil ?_
      refine (X_blkN (X_then (hK88_ _ _ ?_)))
      clear hK88_
      refine C_seq (fun K102_ hK102_ => ?_)
      refine C_reg ?_
      refine S_list (T_val (v := (Value.pointer (some ⟨b81_, 0, none⟩))) (x_move rfl) ?_)
      refine S_list (T_val (v := (Value.pointer (some ⟨b81_, 0, none⟩))) (x_assign rfl) ?_)
      refine wpList_nil ?_
      refine (X_then (hK102_ _ _ ?_))
      clear hK102_
      refine C_ret ?_
      refine R_any (v := (Value.pointer (some ⟨b81_, 0, none⟩))) (run_results1 rfl rfl) ?_
      have H103_ : Holds w98_ (ro R :: cl b81_ 106 [(Value.int .i32 r), (Value.int .i32 2), (Value.slice (some ⟨b73_, 0, none⟩) key.size cp74_), (Value.iface 113 (Value.pointer (some ⟨b93_, 0, none⟩))), (Value.slice a70_ en.size cp71_)] :: cl b93_ 115 [(Value.int .i64 n)] :: F) := (Holds.erase (Holds.erase (Holds.erase (Holds.bring (Holds.bring (Holds.bring H99_ 0 rfl) 1 rfl) 3 rfl) 3) 3) 3)
      exact ⟨_, [cl b81_ 106 [(Value.int .i32 r), (Value.int .i32 2), (Value.slice (some ⟨b73_, 0, none⟩) key.size cp74_), (Value.iface 113 (Value.pointer (some ⟨b93_, 0, none⟩))), (Value.slice a70_ en.size cp71_)], cl b93_ 115 [(Value.int .i64 n)]], rfl, ⟨b81_, b93_, (Value.slice (some ⟨b73_, 0, none⟩) key.size cp74_), (Value.slice a70_ en.size cp71_), rfl, rfl⟩, S101_, H103_⟩
    refine AllR.cons ?_ AllR.nil
    refine A_op (ls' := #[true, true, true, true, true, false, true, true, true, true, true, false, false, false, false]) rfl (by kernel_rfl) (T_s2b rfl Try.underlying9 Try.underlying25 Try.underlying5 H12_ ?_)
    intro b104_ cp105_ w106_ S108_ hc109_ H107_
    have S110_ := Same.trans S16_ S108_
    have H111_ : Holds w106_ (sl 5 1 (Value.slice (some ⟨b104_, 0, none⟩) key.size cp105_) key.size (bytesV (ints key)) :: ro R :: cl b2_ 31 [(Value.int .i64 2), (Value.int .i64 r), (Value.string key), (Value.string en), (Value.int .i64 n), (Value.string val), (Value.bool false)] :: F) := cast2 (P := fun (c__ : List Value) (k__ : Nat) => Holds w106_ (sl 5 1 (Value.slice (some ⟨b104_, 0, none⟩) key.size cp105_) k__ c__ :: ro R :: cl b2_ 31 [(Value.int .i64 2), (Value.int .i64 r), (Value.string key), (Value.string en), (Value.int .i64 n), (Value.string val), (Value.bool false)] :: F)) (byteCells_bytesV _ : byteCells key = bytesV (ints key)) (rfl : key.size = key.size) H107_
    refine ⟨⟨Holds.rd H111_ 2 rfl, Holds.ro_at H111_ 1 rfl⟩, ?_⟩
    refine A_ready (i := 5) (rs := []) (by kernel_rfl) ?_
    refine AllR.cons ?_ AllR.nil
    have H112_ : Holds w106_ (ro R :: sl 5 1 (Value.slice (some ⟨b104_, 0, none⟩) key.size cp105_) key.size (bytesV (ints key)) :: cl b2_ 31 [(Value.int .i64 2), (Value.int .i64 r), (Value.string key), (Value.string en), (Value.int .i64 n), (Value.string val), (Value.bool false)] :: F) := (Holds.bring H111_ 1 rfl)
    refine A_op (ls' := #[true, true, true, true, true, true, true, true, true, true, true, false, false, false, false]) rfl (by kernel_rfl) (T_call (al := [(Value.int .i64 2)]) (pre := []) (F := sl 5 1 (Value.slice (some ⟨b104_, 0, none⟩) key.size cp105_) key.size (bytesV (ints key)) :: cl b2_ 31 [(Value.int .i64 2), (Value.int .i64 r), (Value.string key), (Value.string en), (Value.int .i64 n), (Value.string val), (Value.bool false)] :: F) rfl rfl cb61 (ordSmall R 2 (by omega) (by omega)) H112_ ?_)
    rintro v116_ p117_ w113_ ⟨rfl, rfl⟩ S115_ H114_
    replace H114_ : Holds w113_ (ro R :: sl 5 1 (Value.slice (some ⟨b104_, 0, none⟩) key.size cp105_) key.size (bytesV (ints key)) :: cl b2_ 31 [(Value.int .i64 2), (Value.int .i64 r), (Value.string key), (Value.string en), (Value.int .i64 n), (Value.string val), (Value.bool false)] :: F) := H114_
    have S118_ := Same.trans S110_ S115_
    refine ⟨⟨Holds.rd H114_ 2 rfl, Holds.ro_at H114_ 0 rfl⟩, ?_⟩
    refine A_ready (i := 11) (rs := []) (by kernel_rfl) ?_
    refine AllR.cons ?_ AllR.nil
    refine A_op (ls' := #[true, true, true, true, true, true, true, true, true, true, true, true, false, false, false]) rfl (by kernel_rfl) (T_call (al := [(Value.string en)]) (pre := []) (F := sl 5 1 (Value.slice (some ⟨b104_, 0, none⟩) key.size cp105_) key.size (bytesV (ints key)) :: cl b2_ 31 [(Value.int .i64 2), (Value.int .i64 r), (Value.string key), (Value.string en), (Value.int .i64 n), (Value.string val), (Value.bool false)] :: F) rfl rfl cb62 (bytesOfC R en) H114_ ?_)
    rintro v122_ p123_ w119_ rfl S121_ H120_
    replace H120_ : Holds w119_ (ro R :: sl 5 1 v122_ en.size (bytesV (ints en)) :: sl 5 1 (Value.slice (some ⟨b104_, 0, none⟩) key.size cp105_) key.size (bytesV (ints key)) :: cl b2_ 31 [(Value.int .i64 2), (Value.int .i64 r), (Value.string key), (Value.string en), (Value.int .i64 n), (Value.string val), (Value.bool false)] :: F) := H120_
    have S124_ := Same.trans S118_ S121_
    obtain ⟨-, a125_, cp126_, rfl, hle127_⟩ := Holds.sl_len H120_ 1 rfl
    refine ⟨⟨Holds.rd H120_ 3 rfl, Holds.ro_at H120_ 0 rfl⟩, ?_⟩
    refine A_take 12 (ls' := #[true, true, true, true, true, true, true, true, true, true, true, true, true, false, false]) (v := (Value.agg #[(Value.int .i32 r), (Value.int .i32 2), (Value.slice (some ⟨b104_, 0, none⟩) key.size cp105_), (Value.nilIface), (Value.slice a125_ en.size cp126_)])) rfl (by kernel_rfl) (by kernel_rfl) (by kernel_rfl) (by kernel_rfl) (fun _ _ _ h => h) (fun w hS => by kernel_rfl) ⟨Holds.rd H120_ 3 rfl, Holds.ro_at H120_ 0 rfl⟩ ?_
    refine A_ready (i := 13) (rs := []) (by kernel_rfl) ?_
    refine AllR.cons ?_ AllR.nil
    refine A_op (ls' := #[true, true, true, true, true, true, true, true, true, true, true, true, true, true, false]) rfl (by kernel_rfl) (T_box (v := (Value.agg #[(Value.int .i32 r), (Value.int .i32 2), (Value.slice (some ⟨b104_, 0, none⟩) key.size cp105_), (Value.nilIface), (Value.slice a125_ en.size cp126_)])) rfl H120_ ?_)
    intro b128_ w129_ S131_ H130_
    replace H130_ : Holds w129_ (cl b128_ 106 [(Value.int .i32 r), (Value.int .i32 2), (Value.slice (some ⟨b104_, 0, none⟩) key.size cp105_), (Value.nilIface), (Value.slice a125_ en.size cp126_)] :: ro R :: sl 5 1 (Value.slice a125_ en.size cp126_) en.size (bytesV (ints en)) :: sl 5 1 (Value.slice (some ⟨b104_, 0, none⟩) key.size cp105_) key.size (bytesV (ints key)) :: cl b2_ 31 [(Value.int .i64 2), (Value.int .i64 r), (Value.string key), (Value.string en), (Value.int .i64 n), (Value.string val), (Value.bool false)] :: F) := H130_
    have S132_ := Same.trans S124_ S131_
    refine ⟨⟨Holds.rd H130_ 4 rfl, Holds.ro_at H130_ 1 rfl⟩, ?_⟩
    refine A_take 14 (ls' := #[true, true, true, true, true, true, true, true, true, true, true, true, true, true, true]) (v := (Value.pointer (some ⟨b128_, 0, none⟩))) rfl (by kernel_rfl) (by kernel_rfl) (by kernel_rfl) (by kernel_rfl) (fun _ _ _ h => h) (fun w hS => x_assign rfl) ⟨Holds.rd H130_ 4 rfl, Holds.ro_at H130_ 1 rfl⟩ ?_
    refine A_done (by kernel_rfl) ?_
    refine (X_then (hK7_ _ _ ?_))
    clear hK7_
    refine C_seq (fun K133_ hK133_ => ?_)
    refine C_seq (fun K134_ hK134_ => ?_)
    refine C_reg ?_
    refine S_list (T_val (v := (Value.pointer (some ⟨b2_, 6, none⟩))) (by kernel_rfl) ?_)
    refine S_list (T_val (v := (Value.bool false)) (x_load1 rfl Try.underlying4 rfl ((Holds.rd H130_ 4 rfl) 6 (Value.bool false) rfl)) ?_)
    refine wpList_nil ?_
    refine (X_then (hK134_ _ _ ?_))
    clear hK134_
    refine C_condF rfl ?_
    refine C_skip (X_then (hK133_ _ _ ?_))
    clear hK133_
    refine C_seq (fun K135_ hK135_ => ?_)
    refine C_seq (fun K136_ hK136_ => ?_)
    refine C_reg ?_
    refine S_list (T_val (v := (Value.pointer (some ⟨b2_, 0, none⟩))) (by kernel_rfl) ?_)
    refine S_list (T_val (v := (Value.int .i64 2)) (x_load1 rfl Try.underlying3 rfl ((Holds.rd H130_ 4 rfl) 0 (Value.int .i64 2) rfl)) ?_)
    refine wpList_nil ?_
    refine (X_then (hK136_ _ _ ?_))
    clear hK136_
    refine C_block ?_
    refine C_seq (fun K137_ hK137_ => ?_)
    refine C_reg ?_
    refine S_list (T_val (v := (Value.bool false)) (x_bin rfl rfl rfl) ?_)
    refine S_list (T_val (v := (Value.bool false)) (x_assign rfl) ?_)
    refine wpList_nil ?_
    refine (X_then (hK137_ _ _ ?_))
    clear hK137_
    refine C_condF rfl ?_
    refine C_seq (fun K138_ hK138_ => ?_)
    refine C_reg ?_
    refine S_list (T_val (v := (Value.bool false)) (x_bin rfl rfl rfl) ?_)
    refine S_list (T_val (v := (Value.bool false)) (x_assign rfl) ?_)
    refine wpList_nil ?_
    refine (X_then (hK138_ _ _ ?_))
    clear hK138_
    refine C_condF rfl ?_
    refine C_seq (fun K139_ hK139_ => ?_)
    refine C_reg ?_
    refine S_list (T_val (v := (Value.bool true)) (x_bin rfl rfl rfl) ?_)
    refine S_list (T_val (v := (Value.bool true)) (x_assign rfl) ?_)
    refine wpList_nil ?_
    refine (X_then (hK139_ _ _ ?_))
    clear hK139_
    refine C_condT rfl ?_
    refine C_reg ?_
    refine S_list (T_val (v := (Value.pointer (some ⟨b128_, 0, none⟩))) (x_move rfl) ?_)
    refine S_list (T_val (v := (Value.pointer (some ⟨b2_, 4, none⟩))) (by kernel_rfl) ?_)
    refine S_list (T_val (v := (Value.int .i64 n)) (x_load1 rfl Try.underlying2 rfl ((Holds.rd H130_ 4 rfl) 4 (Value.int .i64 n) rfl)) ?_)
    refine S_list (T_val (v := (Value.agg #[(Value.int .i64 n)])) (by kernel_rfl) ?_)
    refine S_list (T_box (v := (Value.agg #[(Value.int .i64 n)])) rfl H130_ ?_)
    intro b140_ w141_ S143_ H142_
    replace H142_ : Holds w141_ (cl b140_ 115 [(Value.int .i64 n)] :: cl b128_ 106 [(Value.int .i32 r), (Value.int .i32 2), (Value.slice (some ⟨b104_, 0, none⟩) key.size cp105_), (Value.nilIface), (Value.slice a125_ en.size cp126_)] :: ro R :: sl 5 1 (Value.slice a125_ en.size cp126_) en.size (bytesV (ints en)) :: sl 5 1 (Value.slice (some ⟨b104_, 0, none⟩) key.size cp105_) key.size (bytesV (ints key)) :: cl b2_ 31 [(Value.int .i64 2), (Value.int .i64 r), (Value.string key), (Value.string en), (Value.int .i64 n), (Value.string val), (Value.bool false)] :: F) := H142_
    have S144_ := Same.trans S132_ S143_
    refine S_list (T_val (v := (Value.iface 113 (Value.pointer (some ⟨b140_, 0, none⟩)))) (by kernel_rfl) ?_)
    refine S_list (T_val (v := (Value.pointer (some ⟨b128_, 0, none⟩))) (by kernel_rfl) ?_)
    refine S_list (T_val (v := (Value.pointer (some ⟨b128_, 3, none⟩))) (by kernel_rfl) ?_)
    refine S_list0 (T_store1 (v := (Value.iface 113 (Value.pointer (some ⟨b140_, 0, none⟩)))) rfl rfl z20 rfl H142_ 1 rfl (Nat.le_of_ble_eq_true (by rfl)) ?_)
    intro w145_ S147_ H146_
    replace H146_ : Holds w145_ (cl b140_ 115 [(Value.int .i64 n)] :: cl b128_ 106 [(Value.int .i32 r), (Value.int .i32 2), (Value.slice (some ⟨b104_, 0, none⟩) key.size cp105_), (Value.iface 113 (Value.pointer (some ⟨b140_, 0, none⟩))), (Value.slice a125_ en.size cp126_)] :: ro R :: sl 5 1 (Value.slice a125_ en.size cp126_) en.size (bytesV (ints en)) :: sl 5 1 (Value.slice (some ⟨b104_, 0, none⟩) key.size cp105_) key.size (bytesV (ints key)) :: cl b2_ 31 [(Value.int .i64 2), (Value.int .i64 r), (Value.string key), (Value.string en), (Value.int .i64 n), (Value.string val), (Value.bool false)] :: F) := H146_
    have S148_ := Same.trans S144_ S147_
    refine wpList_nil ?_
    refine (X_blkN (X_then (hK135_ _ _ ?_)))
    clear hK135_
    refine C_seq (fun K149_ hK149_ => ?_)
    refine C_reg ?_
    refine S_list (T_val (v := (Value.pointer (some ⟨b128_, 0, none⟩))) (x_move rfl) ?_)
    refine S_list (T_val (v := (Value.pointer (some ⟨b128_, 0, none⟩))) (x_assign rfl) ?_)
    refine wpList_nil ?_
    refine (X_then (hK149_ _ _ ?_))
    clear hK149_
    refine C_ret ?_
    refine R_any (v := (Value.pointer (some ⟨b128_, 0, none⟩))) (run_results1 rfl rfl) ?_
    have H150_ : Holds w145_ (ro R :: cl b128_ 106 [(Value.int .i32 r), (Value.int .i32 2), (Value.slice (some ⟨b104_, 0, none⟩) key.size cp105_), (Value.iface 113 (Value.pointer (some ⟨b140_, 0, none⟩))), (Value.slice a125_ en.size cp126_)] :: cl b140_ 115 [(Value.int .i64 n)] :: F) := (Holds.erase (Holds.erase (Holds.erase (Holds.bring (Holds.bring (Holds.bring H146_ 0 rfl) 1 rfl) 2 rfl) 3) 3) 3)
    exact ⟨_, [cl b128_ 106 [(Value.int .i32 r), (Value.int .i32 2), (Value.slice (some ⟨b104_, 0, none⟩) key.size cp105_), (Value.iface 113 (Value.pointer (some ⟨b140_, 0, none⟩))), (Value.slice a125_ en.size cp126_)], cl b140_ 115 [(Value.int .i64 n)]], rfl, ⟨b128_, b140_, (Value.slice (some ⟨b104_, 0, none⟩) key.size cp105_), (Value.slice a125_ en.size cp126_), rfl, rfl⟩, S148_, H150_⟩
  refine AllR.cons ?_ AllR.nil
  refine A_op (ls' := #[true, true, false, true, true, false, true, true, true, true, true, false, false, false, false]) rfl (by kernel_rfl) (T_s2b rfl Try.underlying9 Try.underlying25 Try.underlying5 H9_ ?_)
  intro b151_ cp152_ w153_ S155_ hc156_ H154_
  have S157_ := Same.trans (Same.trans S6_ (Same.drew _)) S155_
  have H158_ : Holds w153_ (sl 5 1 (Value.slice (some ⟨b151_, 0, none⟩) key.size cp152_) key.size (bytesV (ints key)) :: cl b2_ 31 [(Value.int .i64 2), (Value.int .i64 r), (Value.string key), (Value.string en), (Value.int .i64 n), (Value.string val), (Value.bool false)] :: ro R :: F) := cast2 (P := fun (c__ : List Value) (k__ : Nat) => Holds w153_ (sl 5 1 (Value.slice (some ⟨b151_, 0, none⟩) key.size cp152_) k__ c__ :: cl b2_ 31 [(Value.int .i64 2), (Value.int .i64 r), (Value.string key), (Value.string en), (Value.int .i64 n), (Value.string val), (Value.bool false)] :: ro R :: F)) (byteCells_bytesV _ : byteCells key = bytesV (ints key)) (rfl : key.size = key.size) H154_
  refine ⟨⟨Holds.rd H158_ 1 rfl, Holds.ro_at H158_ 2 rfl⟩, ?_⟩
  refine A_ready (i := 2) (rs := []) (by kernel_rfl) ?_
  refine AllR.cons ?_ AllR.nil
  have H159_ : Holds w153_ (ro R :: sl 5 1 (Value.slice (some ⟨b151_, 0, none⟩) key.size cp152_) key.size (bytesV (ints key)) :: cl b2_ 31 [(Value.int .i64 2), (Value.int .i64 r), (Value.string key), (Value.string en), (Value.int .i64 n), (Value.string val), (Value.bool false)] :: F) := (Holds.bring H158_ 2 rfl)
  refine A_op (ls' := #[true, true, true, true, true, false, true, true, true, true, true, false, false, false, false]) rfl (by kernel_rfl) (T_call (al := [(Value.int .i64 r)]) (pre := []) (F := sl 5 1 (Value.slice (some ⟨b151_, 0, none⟩) key.size cp152_) key.size (bytesV (ints key)) :: cl b2_ 31 [(Value.int .i64 2), (Value.int .i64 r), (Value.string key), (Value.string en), (Value.int .i64 n), (Value.string val), (Value.bool false)] :: F) rfl rfl cb61 (ordSmall R r (by omega) (by omega)) H159_ ?_)
  rintro v163_ p164_ w160_ ⟨rfl, rfl⟩ S162_ H161_
  replace H161_ : Holds w160_ (ro R :: sl 5 1 (Value.slice (some ⟨b151_, 0, none⟩) key.size cp152_) key.size (bytesV (ints key)) :: cl b2_ 31 [(Value.int .i64 2), (Value.int .i64 r), (Value.string key), (Value.string en), (Value.int .i64 n), (Value.string val), (Value.bool false)] :: F) := H161_
  have S165_ := Same.trans S157_ S162_
  refine ⟨⟨Holds.rd H161_ 2 rfl, Holds.ro_at H161_ 0 rfl⟩, ?_⟩
  refine A_ready (i := 5) (rs := []) (by kernel_rfl) ?_
  refine AllR.cons ?_ AllR.nil
  refine A_op (ls' := #[true, true, true, true, true, true, true, true, true, true, true, false, false, false, false]) rfl (by kernel_rfl) (T_call (al := [(Value.int .i64 2)]) (pre := []) (F := sl 5 1 (Value.slice (some ⟨b151_, 0, none⟩) key.size cp152_) key.size (bytesV (ints key)) :: cl b2_ 31 [(Value.int .i64 2), (Value.int .i64 r), (Value.string key), (Value.string en), (Value.int .i64 n), (Value.string val), (Value.bool false)] :: F) rfl rfl cb61 (ordSmall R 2 (by omega) (by omega)) H161_ ?_)
  rintro v169_ p170_ w166_ ⟨rfl, rfl⟩ S168_ H167_
  replace H167_ : Holds w166_ (ro R :: sl 5 1 (Value.slice (some ⟨b151_, 0, none⟩) key.size cp152_) key.size (bytesV (ints key)) :: cl b2_ 31 [(Value.int .i64 2), (Value.int .i64 r), (Value.string key), (Value.string en), (Value.int .i64 n), (Value.string val), (Value.bool false)] :: F) := H167_
  have S171_ := Same.trans S165_ S168_
  refine ⟨⟨Holds.rd H167_ 2 rfl, Holds.ro_at H167_ 0 rfl⟩, ?_⟩
  refine A_ready (i := 11) (rs := []) (by kernel_rfl) ?_
  refine AllR.cons ?_ AllR.nil
  refine A_op (ls' := #[true, true, true, true, true, true, true, true, true, true, true, true, false, false, false]) rfl (by kernel_rfl) (T_call (al := [(Value.string en)]) (pre := []) (F := sl 5 1 (Value.slice (some ⟨b151_, 0, none⟩) key.size cp152_) key.size (bytesV (ints key)) :: cl b2_ 31 [(Value.int .i64 2), (Value.int .i64 r), (Value.string key), (Value.string en), (Value.int .i64 n), (Value.string val), (Value.bool false)] :: F) rfl rfl cb62 (bytesOfC R en) H167_ ?_)
  rintro v175_ p176_ w172_ rfl S174_ H173_
  replace H173_ : Holds w172_ (ro R :: sl 5 1 v175_ en.size (bytesV (ints en)) :: sl 5 1 (Value.slice (some ⟨b151_, 0, none⟩) key.size cp152_) key.size (bytesV (ints key)) :: cl b2_ 31 [(Value.int .i64 2), (Value.int .i64 r), (Value.string key), (Value.string en), (Value.int .i64 n), (Value.string val), (Value.bool false)] :: F) := H173_
  have S177_ := Same.trans S171_ S174_
  obtain ⟨-, a178_, cp179_, rfl, hle180_⟩ := Holds.sl_len H173_ 1 rfl
  refine ⟨⟨Holds.rd H173_ 3 rfl, Holds.ro_at H173_ 0 rfl⟩, ?_⟩
  refine A_take 12 (ls' := #[true, true, true, true, true, true, true, true, true, true, true, true, true, false, false]) (v := (Value.agg #[(Value.int .i32 r), (Value.int .i32 2), (Value.slice (some ⟨b151_, 0, none⟩) key.size cp152_), (Value.nilIface), (Value.slice a178_ en.size cp179_)])) rfl (by kernel_rfl) (by kernel_rfl) (by kernel_rfl) (by kernel_rfl) (fun _ _ _ h => h) (fun w hS => by kernel_rfl) ⟨Holds.rd H173_ 3 rfl, Holds.ro_at H173_ 0 rfl⟩ ?_
  refine A_ready (i := 13) (rs := []) (by kernel_rfl) ?_
  refine AllR.cons ?_ AllR.nil
  refine A_op (ls' := #[true, true, true, true, true, true, true, true, true, true, true, true, true, true, false]) rfl (by kernel_rfl) (T_box (v := (Value.agg #[(Value.int .i32 r), (Value.int .i32 2), (Value.slice (some ⟨b151_, 0, none⟩) key.size cp152_), (Value.nilIface), (Value.slice a178_ en.size cp179_)])) rfl H173_ ?_)
  intro b181_ w182_ S184_ H183_
  replace H183_ : Holds w182_ (cl b181_ 106 [(Value.int .i32 r), (Value.int .i32 2), (Value.slice (some ⟨b151_, 0, none⟩) key.size cp152_), (Value.nilIface), (Value.slice a178_ en.size cp179_)] :: ro R :: sl 5 1 (Value.slice a178_ en.size cp179_) en.size (bytesV (ints en)) :: sl 5 1 (Value.slice (some ⟨b151_, 0, none⟩) key.size cp152_) key.size (bytesV (ints key)) :: cl b2_ 31 [(Value.int .i64 2), (Value.int .i64 r), (Value.string key), (Value.string en), (Value.int .i64 n), (Value.string val), (Value.bool false)] :: F) := H183_
  have S185_ := Same.trans S177_ S184_
  refine ⟨⟨Holds.rd H183_ 4 rfl, Holds.ro_at H183_ 1 rfl⟩, ?_⟩
  refine A_take 14 (ls' := #[true, true, true, true, true, true, true, true, true, true, true, true, true, true, true]) (v := (Value.pointer (some ⟨b181_, 0, none⟩))) rfl (by kernel_rfl) (by kernel_rfl) (by kernel_rfl) (by kernel_rfl) (fun _ _ _ h => h) (fun w hS => x_assign rfl) ⟨Holds.rd H183_ 4 rfl, Holds.ro_at H183_ 1 rfl⟩ ?_
  refine A_done (by kernel_rfl) ?_
  refine (X_then (hK7_ _ _ ?_))
  clear hK7_
  refine C_seq (fun K186_ hK186_ => ?_)
  refine C_seq (fun K187_ hK187_ => ?_)
  refine C_reg ?_
  refine S_list (T_val (v := (Value.pointer (some ⟨b2_, 6, none⟩))) (by kernel_rfl) ?_)
  refine S_list (T_val (v := (Value.bool false)) (x_load1 rfl Try.underlying4 rfl ((Holds.rd H183_ 4 rfl) 6 (Value.bool false) rfl)) ?_)
  refine wpList_nil ?_
  refine (X_then (hK187_ _ _ ?_))
  clear hK187_
  refine C_condF rfl ?_
  refine C_skip (X_then (hK186_ _ _ ?_))
  clear hK186_
  refine C_seq (fun K188_ hK188_ => ?_)
  refine C_seq (fun K189_ hK189_ => ?_)
  refine C_reg ?_
  refine S_list (T_val (v := (Value.pointer (some ⟨b2_, 0, none⟩))) (by kernel_rfl) ?_)
  refine S_list (T_val (v := (Value.int .i64 2)) (x_load1 rfl Try.underlying3 rfl ((Holds.rd H183_ 4 rfl) 0 (Value.int .i64 2) rfl)) ?_)
  refine wpList_nil ?_
  refine (X_then (hK189_ _ _ ?_))
  clear hK189_
  refine C_block ?_
  refine C_seq (fun K190_ hK190_ => ?_)
  refine C_reg ?_
  refine S_list (T_val (v := (Value.bool false)) (x_bin rfl rfl rfl) ?_)
  refine S_list (T_val (v := (Value.bool false)) (x_assign rfl) ?_)
  refine wpList_nil ?_
  refine (X_then (hK190_ _ _ ?_))
  clear hK190_
  refine C_condF rfl ?_
  refine C_seq (fun K191_ hK191_ => ?_)
  refine C_reg ?_
  refine S_list (T_val (v := (Value.bool false)) (x_bin rfl rfl rfl) ?_)
  refine S_list (T_val (v := (Value.bool false)) (x_assign rfl) ?_)
  refine wpList_nil ?_
  refine (X_then (hK191_ _ _ ?_))
  clear hK191_
  refine C_condF rfl ?_
  refine C_seq (fun K192_ hK192_ => ?_)
  refine C_reg ?_
  refine S_list (T_val (v := (Value.bool true)) (x_bin rfl rfl rfl) ?_)
  refine S_list (T_val (v := (Value.bool true)) (x_assign rfl) ?_)
  refine wpList_nil ?_
  refine (X_then (hK192_ _ _ ?_))
  clear hK192_
  refine C_condT rfl ?_
  refine C_reg ?_
  refine S_list (T_val (v := (Value.pointer (some ⟨b181_, 0, none⟩))) (x_move rfl) ?_)
  refine S_list (T_val (v := (Value.pointer (some ⟨b2_, 4, none⟩))) (by kernel_rfl) ?_)
  refine S_list (T_val (v := (Value.int .i64 n)) (x_load1 rfl Try.underlying2 rfl ((Holds.rd H183_ 4 rfl) 4 (Value.int .i64 n) rfl)) ?_)
  refine S_list (T_val (v := (Value.agg #[(Value.int .i64 n)])) (by kernel_rfl) ?_)
  refine S_list (T_box (v := (Value.agg #[(Value.int .i64 n)])) rfl H183_ ?_)
  intro b193_ w194_ S196_ H195_
  replace H195_ : Holds w194_ (cl b193_ 115 [(Value.int .i64 n)] :: cl b181_ 106 [(Value.int .i32 r), (Value.int .i32 2), (Value.slice (some ⟨b151_, 0, none⟩) key.size cp152_), (Value.nilIface), (Value.slice a178_ en.size cp179_)] :: ro R :: sl 5 1 (Value.slice a178_ en.size cp179_) en.size (bytesV (ints en)) :: sl 5 1 (Value.slice (some ⟨b151_, 0, none⟩) key.size cp152_) key.size (bytesV (ints key)) :: cl b2_ 31 [(Value.int .i64 2), (Value.int .i64 r), (Value.string key), (Value.string en), (Value.int .i64 n), (Value.string val), (Value.bool false)] :: F) := H195_
  have S197_ := Same.trans S185_ S196_
  refine S_list (T_val (v := (Value.iface 113 (Value.pointer (some ⟨b193_, 0, none⟩)))) (by kernel_rfl) ?_)
  refine S_list (T_val (v := (Value.pointer (some ⟨b181_, 0, none⟩))) (by kernel_rfl) ?_)
  refine S_list (T_val (v := (Value.pointer (some ⟨b181_, 3, none⟩))) (by kernel_rfl) ?_)
  refine S_list0 (T_store1 (v := (Value.iface 113 (Value.pointer (some ⟨b193_, 0, none⟩)))) rfl rfl z20 rfl H195_ 1 rfl (Nat.le_of_ble_eq_true (by rfl)) ?_)
  intro w198_ S200_ H199_
  replace H199_ : Holds w198_ (cl b193_ 115 [(Value.int .i64 n)] :: cl b181_ 106 [(Value.int .i32 r), (Value.int .i32 2), (Value.slice (some ⟨b151_, 0, none⟩) key.size cp152_), (Value.iface 113 (Value.pointer (some ⟨b193_, 0, none⟩))), (Value.slice a178_ en.size cp179_)] :: ro R :: sl 5 1 (Value.slice a178_ en.size cp179_) en.size (bytesV (ints en)) :: sl 5 1 (Value.slice (some ⟨b151_, 0, none⟩) key.size cp152_) key.size (bytesV (ints key)) :: cl b2_ 31 [(Value.int .i64 2), (Value.int .i64 r), (Value.string key), (Value.string en), (Value.int .i64 n), (Value.string val), (Value.bool false)] :: F) := H199_
  have S201_ := Same.trans S197_ S200_
  refine wpList_nil ?_
  refine (X_blkN (X_then (hK188_ _ _ ?_)))
  clear hK188_
  refine C_seq (fun K202_ hK202_ => ?_)
  refine C_reg ?_
  refine S_list (T_val (v := (Value.pointer (some ⟨b181_, 0, none⟩))) (x_move rfl) ?_)
  refine S_list (T_val (v := (Value.pointer (some ⟨b181_, 0, none⟩))) (x_assign rfl) ?_)
  refine wpList_nil ?_
  refine (X_then (hK202_ _ _ ?_))
  clear hK202_
  refine C_ret ?_
  refine R_any (v := (Value.pointer (some ⟨b181_, 0, none⟩))) (run_results1 rfl rfl) ?_
  have H203_ : Holds w198_ (ro R :: cl b181_ 106 [(Value.int .i32 r), (Value.int .i32 2), (Value.slice (some ⟨b151_, 0, none⟩) key.size cp152_), (Value.iface 113 (Value.pointer (some ⟨b193_, 0, none⟩))), (Value.slice a178_ en.size cp179_)] :: cl b193_ 115 [(Value.int .i64 n)] :: F) := (Holds.erase (Holds.erase (Holds.erase (Holds.bring (Holds.bring (Holds.bring H199_ 0 rfl) 1 rfl) 2 rfl) 3) 3) 3)
  exact ⟨_, [cl b181_ 106 [(Value.int .i32 r), (Value.int .i32 2), (Value.slice (some ⟨b151_, 0, none⟩) key.size cp152_), (Value.iface 113 (Value.pointer (some ⟨b193_, 0, none⟩))), (Value.slice a178_ en.size cp179_)], cl b193_ 115 [(Value.int .i64 n)]], rfl, ⟨b181_, b193_, (Value.slice (some ⟨b151_, 0, none⟩) key.size cp152_), (Value.slice a178_ en.size cp179_), rfl, rfl⟩, S201_, H203_⟩
end Go.Proofs.Ytfdnfnjmphjdnaa
