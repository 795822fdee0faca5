/- A compare as the server reads it. -/
import Derived.Test.YtlnihndjepjagaaCkF0
set_option linter.unusedVariables false
set_option linter.unusedSimpArgs false
namespace Go.Proofs.Ytlnihndjepjagaa
open Go Go.RowKit Gw

set_option maxHeartbeats 2000000 in
theorem ckCmpIn (R : HP) (y : CM) :
    TriG Try.prog 73 #[(Value.agg #[(Value.int .i64 y.target), (Value.int .i64 y.result), (Value.string y.key), (Value.string y.end_), (Value.int .i64 y.n), (Value.string y.value), (Value.bool y.bare)])] R [] (fun R' v__ post__ => ∃ (b' : Nat), v__ = (Value.pointer (some ⟨b', 0, none⟩)) ∧ post__ = [] ∧ (CmpAt R' b' y)) := by
 refine TriG.into (n := 75) (al := [(Value.agg #[(Value.int .i64 y.target), (Value.int .i64 y.result), (Value.string y.key), (Value.string y.end_), (Value.int .i64 y.n), (Value.string y.value), (Value.bool y.bare)])]) Try.func73 rfl Try.ntmps73 rfl rfl fun w F H => ?_
 refine C_seq (fun K1_ hK1_ => ?_)
 refine C_reg ?_
 refine S_list (T_box (v := (Value.agg #[(Value.int .i64 y.target), (Value.int .i64 y.result), (Value.string y.key), (Value.string y.end_), (Value.int .i64 y.n), (Value.string y.value), (Value.bool y.bare)])) rfl H ?_)
 intro b2_ w3_ S5_ H4_
 have S6_ := Same.trans (Same.refl w) S5_
 refine S_list (T_val (v := (Value.pointer none)) (x_assign rfl) ?_)
 refine wpList_nil ?_
 refine (X_then (hK1_ _ _ ?_))
 clear hK1_
 refine C_seq (fun K7_ hK7_ => ?_)
 refine A_start (S := fun w => Rd b2_ [(Value.int .i64 y.target), (Value.int .i64 y.result), (Value.string y.key), (Value.string y.end_), (Value.int .i64 y.n), (Value.string y.value), (Value.bool y.bare)] w ∧ Sub R (hp w)) (N := 15) foll rfl rfl ?_
 have H8_ := Holds.drew_ H4_
 have hq9_ := And.intro (Holds.rd H8_ 0 rfl) ((Holds.ro_at H8_ 1 rfl))
 refine A_tk 0 (v := (Value.pointer (some ⟨b2_, 1, none⟩))) rfl (by kernel_rfl) (fun w hS => by kernel_rfl) hq9_ ?_
 refine A_tk 1 (v := (Value.int .i64 y.result)) rfl (by kernel_rfl) (fun w hS => x_load1 rfl Try.underlying3 rfl (hS.1 1 (Value.int .i64 y.result) rfl)) hq9_ ?_
 refine A_tk 3 (v := (Value.pointer (some ⟨b2_, 0, none⟩))) rfl (by kernel_rfl) (fun w hS => by kernel_rfl) hq9_ ?_
 refine A_tk 4 (v := (Value.int .i64 y.target)) rfl (by kernel_rfl) (fun w hS => x_load1 rfl Try.underlying3 rfl (hS.1 0 (Value.int .i64 y.target) rfl)) hq9_ ?_
 refine A_tk 6 (v := (Value.pointer (some ⟨b2_, 2, none⟩))) rfl (by kernel_rfl) (fun w hS => by kernel_rfl) hq9_ ?_
 refine A_tk 7 (v := (Value.string y.key)) rfl (by kernel_rfl) (fun w hS => x_load1 rfl Try.underlying9 rfl (hS.1 2 (Value.string y.key) rfl)) hq9_ ?_
 refine A_tk 9 (v := (Value.pointer (some ⟨b2_, 3, none⟩))) rfl (by kernel_rfl) (fun w hS => by kernel_rfl) hq9_ ?_
 refine A_tk 10 (v := (Value.string y.end_)) rfl (by kernel_rfl) (fun w hS => x_load1 rfl Try.underlying9 rfl (hS.1 3 (Value.string y.end_) rfl)) hq9_ ?_
 refine A_ready (i := 2) (rs := [8]) (by kernel_rfl) ?_
 refine AllR.cons ?_ ?_
 ·skip
  have H11_ := ((Holds.bring H8_ 1 rfl) :)
  replace H11_ : Holds w3_.drew (ro R :: cl b2_ 98 [(Value.int .i64 y.target), (Value.int .i64 y.result), (Value.string y.key), (Value.string y.end_), (Value.int .i64 y.n), (Value.string y.value), (Value.bool y.bare)] :: F) := H11_
  refine A_op (ls' := #[true, true, true, true, true, false, true, true, false, true, true, false, false, false, false]) rfl (by kernel_rfl) (T_call (al := [(Value.int .i64 y.result)]) (pre := []) rfl rfl cb68 (ckOrder R y.result) H11_ ?_)
  rintro v10_ p15_ w12_ ⟨rfl, rfl⟩ S14_ H13_
  have S16_ := Same.trans (Same.trans S6_ (Same.drew _)) S14_
  refine ⟨⟨Holds.rd H13_ 1 rfl, (Holds.ro_at H13_ 0 rfl)⟩, ?_⟩
  refine A_ready (i := 5) (rs := [8]) (by kernel_rfl) ?_
  refine AllR.cons ?_ ?_
  ·skip
   refine A_op (ls' := #[true, true, true, true, true, true, true, true, false, true, true, false, false, false, false]) rfl (by kernel_rfl) (T_call (al := [(Value.int .i64 y.target)]) (pre := []) rfl rfl cb68 (ckOrder R y.target) H13_ ?_)
   rintro v17_ p21_ w18_ ⟨rfl, rfl⟩ S20_ H19_
   have S22_ := Same.trans S16_ S20_
   refine ⟨⟨Holds.rd H19_ 1 rfl, (Holds.ro_at H19_ 0 rfl)⟩, ?_⟩
   refine A_ready (i := 8) (rs := [11]) (by kernel_rfl) ?_
   refine AllR.cons ?_ ?_
   ·skip
    refine A_op (ls' := #[true, true, true, true, true, true, true, true, true, true, true, false, false, false, false]) rfl (by kernel_rfl) (T_s2b rfl Try.underlying9 Try.underlying122 Try.underlying5 H19_ ?_)
    intro b23_ cp24_ w25_ S27_ hc28_ H26_
    have S29_ := Same.trans S22_ S27_
    have H30_ := Holds.resl H26_ 0 rfl (byteCells_bytesV _ : byteCells y.key = bytesV (ints y.key)) rfl
    have H31_ := Holds.resl H30_ 0 rfl (rfl : bytesV (ints y.key) = bytesV (ints y.key)) ((ints_length _).symm : y.key.size = (List.length (ints y.key)))
    refine ⟨⟨Holds.rd H31_ 2 rfl, (Holds.ro_at H31_ 1 rfl)⟩, ?_⟩
    refine A_ready (i := 11) (rs := []) (by kernel_rfl) ?_
    refine AllR.cons ?_ AllR.nil
    have H36_ := ((Holds.bring H31_ 1 rfl) :)
    replace H36_ : Holds w25_ (ro R :: sl 5 1 (Value.slice (some ⟨b23_, 0, none⟩) y.key.size cp24_) (List.length (ints y.key)) (bytesV (ints y.key)) :: cl b2_ 98 [(Value.int .i64 y.target), (Value.int .i64 y.result), (Value.string y.key), (Value.string y.end_), (Value.int .i64 y.n), (Value.string y.value), (Value.bool y.bare)] :: F) := H36_
    refine A_op (ls' := #[true, true, true, true, true, true, true, true, true, true, true, true, false, false, false]) rfl (by kernel_rfl) (T_call (al := [(Value.string y.end_)]) (pre := []) rfl rfl cb67 (ckBytes R y.end_) H36_ ?_)
    rintro v32_ p40_ w37_ ⟨a33_, m34_, c35_, rfl, rfl⟩ S39_ H38_
    have S41_ := Same.trans S29_ S39_
    refine ⟨⟨Holds.rd H38_ 2 rfl, (Holds.ro_at H38_ 0 rfl)⟩, ?_⟩
    have hq42_ := And.intro (Holds.rd H38_ 2 rfl) ((Holds.ro_at H38_ 0 rfl))
    refine A_tk 12 (v := (Value.agg #[(Value.int .i32 (ord32 y.result)), (Value.int .i32 (ord32 y.target)), (Value.slice (some ⟨b23_, 0, none⟩) y.key.size cp24_), (Value.nilIface), (Value.slice a33_ m34_ c35_)])) rfl (by kernel_rfl) (fun w hS => by kernel_rfl) hq42_ ?_
    refine A_ready (i := 13) (rs := []) (by kernel_rfl) ?_
    refine AllR.cons ?_ AllR.nil
    refine A_op (ls' := #[true, true, true, true, true, true, true, true, true, true, true, true, true, true, false]) rfl (by kernel_rfl) (T_box (v := (Value.agg #[(Value.int .i32 (ord32 y.result)), (Value.int .i32 (ord32 y.target)), (Value.slice (some ⟨b23_, 0, none⟩) y.key.size cp24_), (Value.nilIface), (Value.slice a33_ m34_ c35_)])) rfl H38_ ?_)
    intro b43_ w44_ S46_ H45_
    have S47_ := Same.trans S41_ S46_
    refine ⟨⟨Holds.rd H45_ 3 rfl, (Holds.ro_at H45_ 1 rfl)⟩, ?_⟩
    have hq48_ := And.intro (Holds.rd H45_ 3 rfl) ((Holds.ro_at H45_ 1 rfl))
    refine A_tk 14 (v := (Value.pointer (some ⟨b43_, 0, none⟩))) rfl (by kernel_rfl) (fun w hS => x_assign rfl) hq48_ ?_
    refine A_done (by kernel_rfl) ?_
    refine (X_then (hK7_ _ _ ?_))
    clear hK7_
    refine C_seq (fun K49_ hK49_ => ?_)
    refine C_seq (fun K50_ hK50_ => ?_)
    refine C_reg ?_
    refine S_list (T_val (v := (Value.pointer (some ⟨b2_, 6, none⟩))) (by kernel_rfl) ?_)
    refine S_list (T_val (v := (Value.bool y.bare)) (x_load1 rfl Try.underlying4 rfl ((Holds.rd H45_ 3 rfl) 6 (Value.bool y.bare) rfl)) ?_)
    refine wpList_nil ?_
    refine (X_then (hK50_ _ _ ?_))
    clear hK50_
    refine C_cond (b := y.bare) rfl (fun c51_t => ?_) (fun c51_f => ?_)
    ·skip
     refine C_seq (fun K52_ hK52_ => ?_)
     refine C_reg ?_
     refine S_list (T_val (v := (Value.pointer (some ⟨b43_, 0, none⟩))) (x_move rfl) ?_)
     refine S_list (T_val (v := (Value.pointer (some ⟨b43_, 0, none⟩))) (x_assign rfl) ?_)
     refine wpList_nil ?_
     refine (X_then (hK52_ _ _ ?_))
     clear hK52_
     refine C_ret (X_thenR ?_)
     refine R_any (v := (Value.pointer (some ⟨b43_, 0, none⟩))) (run_results1 rfl rfl) ?_
     have H53_ := ((Holds.bring (Holds.bring H45_ 2 rfl) 2 rfl) :)
     replace H53_ : Holds w44_ (ro R :: sl 5 1 (Value.slice (some ⟨b23_, 0, none⟩) y.key.size cp24_) (List.length (ints y.key)) (bytesV (ints y.key)) :: cl b43_ 201 [(Value.int .i32 (ord32 y.result)), (Value.int .i32 (ord32 y.target)), (Value.slice (some ⟨b23_, 0, none⟩) y.key.size cp24_), (Value.nilIface), (Value.slice a33_ m34_ c35_)] :: cl b2_ 98 [(Value.int .i64 y.target), (Value.int .i64 y.result), (Value.string y.key), (Value.string y.end_), (Value.int .i64 y.n), (Value.string y.value), (Value.bool y.bare)] :: F) := H53_
     obtain ⟨R54_, hs55_, ⟨R56_, ha57_, hs58_⟩, H59_⟩ := Holds.gift H53_
     have hr60_ : RS R54_ 1 (Value.slice (some ⟨b23_, 0, none⟩) y.key.size cp24_) (List.length (ints y.key)) (bytesV (ints y.key)) := (sl_RS ha57_ (Sub.rfl' _)).mono hs58_
     obtain ⟨R61_, hs62_, ⟨R63_, ha64_, hs65_⟩, H66_⟩ := Holds.gift H59_
     have hz_R_R61_ := Sub.trans' hs55_ hs62_
     have hr67_ : RC R61_ b43_ 0 [(Value.int .i32 (ord32 y.result)), (Value.int .i32 (ord32 y.target)), (Value.slice (some ⟨b23_, 0, none⟩) y.key.size cp24_), (Value.nilIface), (Value.slice a33_ m34_ c35_)] := (cl_RC ha64_ (Sub.rfl' _)).mono hs65_
     have H68_ : Holds w44_ (ro R61_ :: F) := (Holds.pkF H66_ [0] 1 :)
     exact ⟨R61_, _, _, rfl, hz_R_R61_, ⟨b43_, rfl, rfl, (⟨_, _, _, (RS.mono hr60_ hs62_), hr67_.take 3⟩)⟩, S47_, H68_⟩
    ·skip
     refine C_skip (X_then (hK49_ _ _ ?_))
     clear hK49_
     refine C_seq (fun K69_ hK69_ => ?_)
     refine C_seq (fun K70_ hK70_ => ?_)
     refine C_reg ?_
     refine S_list (T_val (v := (Value.pointer (some ⟨b2_, 0, none⟩))) (by kernel_rfl) ?_)
     refine S_list (T_val (v := (Value.int .i64 y.target)) (x_load1 rfl Try.underlying3 rfl ((Holds.rd H45_ 3 rfl) 0 (Value.int .i64 y.target) rfl)) ?_)
     refine wpList_nil ?_
     refine (X_then (hK70_ _ _ ?_))
     clear hK70_
     refine C_block ?_
     refine C_seq (fun K71_ hK71_ => ?_)
     refine C_reg ?_
     refine S_list (T_val (v := (Value.bool (decide (y.target = 0)))) (x_bin rfl rfl rfl) ?_)
     refine S_list (T_val (v := (Value.bool (decide (y.target = 0)))) (x_assign rfl) ?_)
     refine wpList_nil ?_
     refine (X_then (hK71_ _ _ ?_))
     clear hK71_
     refine C_cond (b := decide (y.target = 0)) rfl (fun c72_t => ?_) (fun c72_f => ?_)
     ·have c72_tp : y.target = 0 := of_decide_eq_true c72_t
      refine C_reg ?_
      refine S_list (T_val (v := (Value.pointer (some ⟨b43_, 0, none⟩))) (x_move rfl) ?_)
      refine S_list (T_val (v := (Value.pointer (some ⟨b2_, 4, none⟩))) (by kernel_rfl) ?_)
      refine S_list (T_val (v := (Value.int .i64 y.n)) (x_load1 rfl Try.underlying2 rfl ((Holds.rd H45_ 3 rfl) 4 (Value.int .i64 y.n) rfl)) ?_)
      refine S_list (T_val (v := (Value.agg #[(Value.int .i64 y.n)])) (by kernel_rfl) ?_)
      refine S_list (T_box (v := (Value.agg #[(Value.int .i64 y.n)])) rfl H45_ ?_)
      intro b73_ w74_ S76_ H75_
      have S77_ := Same.trans S47_ S76_
      refine S_list (T_val (v := (Value.iface 209 (Value.pointer (some ⟨b73_, 0, none⟩)))) (by kernel_rfl) ?_)
      refine S_list (T_val (v := (Value.pointer (some ⟨b43_, 0, none⟩))) (by kernel_rfl) ?_)
      refine S_list (T_val (v := (Value.pointer (some ⟨b43_, 3, none⟩))) (by kernel_rfl) ?_)
      refine S_list0 (T_store1 (v := (Value.iface 209 (Value.pointer (some ⟨b73_, 0, none⟩)))) rfl rfl z20 rfl H75_ 1 rfl (Nat.le_of_ble_eq_true (by rfl)) ?_)
      intro w78_ S80_ H79_
      have S81_ := Same.trans S77_ S80_
      refine wpList_nil ?_
      refine (X_blkN (X_then (hK69_ _ _ ?_)))
      clear hK69_
      refine C_seq (fun K82_ hK82_ => ?_)
      refine C_reg ?_
      refine S_list (T_val (v := (Value.pointer (some ⟨b43_, 0, none⟩))) (x_move rfl) ?_)
      refine S_list (T_val (v := (Value.pointer (some ⟨b43_, 0, none⟩))) (x_assign rfl) ?_)
      refine wpList_nil ?_
      refine (X_then (hK82_ _ _ ?_))
      clear hK82_
      refine C_ret ?_
      refine R_any (v := (Value.pointer (some ⟨b43_, 0, none⟩))) (run_results1 rfl rfl) ?_
      have H83_ := ((Holds.bring (Holds.bring H79_ 3 rfl) 3 rfl) :)
      replace H83_ : Holds w78_ (ro R :: sl 5 1 (Value.slice (some ⟨b23_, 0, none⟩) y.key.size cp24_) (List.length (ints y.key)) (bytesV (ints y.key)) :: cl b73_ 211 [(Value.int .i64 y.n)] :: cl b43_ 201 [(Value.int .i32 (ord32 y.result)), (Value.int .i32 (ord32 y.target)), (Value.slice (some ⟨b23_, 0, none⟩) y.key.size cp24_), (Value.iface 209 (Value.pointer (some ⟨b73_, 0, none⟩))), (Value.slice a33_ m34_ c35_)] :: cl b2_ 98 [(Value.int .i64 y.target), (Value.int .i64 y.result), (Value.string y.key), (Value.string y.end_), (Value.int .i64 y.n), (Value.string y.value), (Value.bool y.bare)] :: F) := H83_
      obtain ⟨R84_, hs85_, ⟨R86_, ha87_, hs88_⟩, H89_⟩ := Holds.gift H83_
      have hr90_ : RS R84_ 1 (Value.slice (some ⟨b23_, 0, none⟩) y.key.size cp24_) (List.length (ints y.key)) (bytesV (ints y.key)) := (sl_RS ha87_ (Sub.rfl' _)).mono hs88_
      have H91_ := ((Holds.bring (Holds.bring H89_ 2 rfl) 1 rfl) :)
      obtain ⟨R92_, hs93_, ⟨R94_, ha95_, hs96_⟩, H97_⟩ := Holds.gift H91_
      replace H97_ : Holds w78_ (ro R92_ :: cl b73_ 211 [(Value.int .i64 y.n)] :: cl b2_ 98 [(Value.int .i64 y.target), (Value.int .i64 y.result), (Value.string y.key), (Value.string y.end_), (Value.int .i64 y.n), (Value.string y.value), (Value.bool y.bare)] :: F) := H97_
      have hz_R_R92_ := Sub.trans' hs85_ hs93_
      have hr98_ : RC R92_ b43_ 0 [(Value.int .i32 (ord32 y.result)), (Value.int .i32 (ord32 y.target)), (Value.slice (some ⟨b23_, 0, none⟩) y.key.size cp24_), (Value.iface 209 (Value.pointer (some ⟨b73_, 0, none⟩))), (Value.slice a33_ m34_ c35_)] := (cl_RC ha95_ (Sub.rfl' _)).mono hs96_
      have H99_ : Holds w78_ (ro R92_ :: F) := (Holds.pkF H97_ [0] 2 :)
      exact ⟨R92_, _, _, rfl, hz_R_R92_, ⟨b43_, rfl, rfl, (⟨_, _, _, (RS.mono hr90_ hs93_), hr98_.take 3⟩)⟩, S81_, H99_⟩
     ·have c72_fp : ¬ (y.target = 0) := of_decide_eq_false c72_f
      refine C_seq (fun K100_ hK100_ => ?_)
      refine C_reg ?_
      refine S_list (T_val (v := (Value.bool (decide (y.target = 1)))) (x_bin rfl rfl rfl) ?_)
      refine S_list (T_val (v := (Value.bool (decide (y.target = 1)))) (x_assign rfl) ?_)
      refine wpList_nil ?_
      refine (X_then (hK100_ _ _ ?_))
      clear hK100_
      refine C_cond (b := decide (y.target = 1)) rfl (fun c101_t => ?_) (fun c101_f => ?_)
      ·have c101_tp : y.target = 1 := of_decide_eq_true c101_t
       refine C_reg ?_
       refine S_list (T_val (v := (Value.pointer (some ⟨b43_, 0, none⟩))) (x_move rfl) ?_)
       refine S_list (T_val (v := (Value.pointer (some ⟨b2_, 4, none⟩))) (by kernel_rfl) ?_)
       refine S_list (T_val (v := (Value.int .i64 y.n)) (x_load1 rfl Try.underlying2 rfl ((Holds.rd H45_ 3 rfl) 4 (Value.int .i64 y.n) rfl)) ?_)
       refine S_list (T_val (v := (Value.agg #[(Value.int .i64 y.n)])) (by kernel_rfl) ?_)
       refine S_list (T_box (v := (Value.agg #[(Value.int .i64 y.n)])) rfl H45_ ?_)
       intro b102_ w103_ S105_ H104_
       have S106_ := Same.trans S47_ S105_
       refine S_list (T_val (v := (Value.iface 212 (Value.pointer (some ⟨b102_, 0, none⟩)))) (by kernel_rfl) ?_)
       refine S_list (T_val (v := (Value.pointer (some ⟨b43_, 0, none⟩))) (by kernel_rfl) ?_)
       refine S_list (T_val (v := (Value.pointer (some ⟨b43_, 3, none⟩))) (by kernel_rfl) ?_)
       refine S_list0 (T_store1 (v := (Value.iface 212 (Value.pointer (some ⟨b102_, 0, none⟩)))) rfl rfl z20 rfl H104_ 1 rfl (Nat.le_of_ble_eq_true (by rfl)) ?_)
       intro w107_ S109_ H108_
       have S110_ := Same.trans S106_ S109_
       refine wpList_nil ?_
       refine (X_blkN (X_then (hK69_ _ _ ?_)))
       clear hK69_
       refine C_seq (fun K111_ hK111_ => ?_)
       refine C_reg ?_
       refine S_list (T_val (v := (Value.pointer (some ⟨b43_, 0, none⟩))) (x_move rfl) ?_)
       refine S_list (T_val (v := (Value.pointer (some ⟨b43_, 0, none⟩))) (x_assign rfl) ?_)
       refine wpList_nil ?_
       refine (X_then (hK111_ _ _ ?_))
       clear hK111_
       refine C_ret ?_
       refine R_any (v := (Value.pointer (some ⟨b43_, 0, none⟩))) (run_results1 rfl rfl) ?_
       have H112_ := ((Holds.bring (Holds.bring H108_ 3 rfl) 3 rfl) :)
       replace H112_ : Holds w107_ (ro R :: sl 5 1 (Value.slice (some ⟨b23_, 0, none⟩) y.key.size cp24_) (List.length (ints y.key)) (bytesV (ints y.key)) :: cl b102_ 214 [(Value.int .i64 y.n)] :: cl b43_ 201 [(Value.int .i32 (ord32 y.result)), (Value.int .i32 (ord32 y.target)), (Value.slice (some ⟨b23_, 0, none⟩) y.key.size cp24_), (Value.iface 212 (Value.pointer (some ⟨b102_, 0, none⟩))), (Value.slice a33_ m34_ c35_)] :: cl b2_ 98 [(Value.int .i64 y.target), (Value.int .i64 y.result), (Value.string y.key), (Value.string y.end_), (Value.int .i64 y.n), (Value.string y.value), (Value.bool y.bare)] :: F) := H112_
       obtain ⟨R113_, hs114_, ⟨R115_, ha116_, hs117_⟩, H118_⟩ := Holds.gift H112_
       have hr119_ : RS R113_ 1 (Value.slice (some ⟨b23_, 0, none⟩) y.key.size cp24_) (List.length (ints y.key)) (bytesV (ints y.key)) := (sl_RS ha116_ (Sub.rfl' _)).mono hs117_
       have H120_ := ((Holds.bring (Holds.bring H118_ 2 rfl) 1 rfl) :)
       obtain ⟨R121_, hs122_, ⟨R123_, ha124_, hs125_⟩, H126_⟩ := Holds.gift H120_
       replace H126_ : Holds w107_ (ro R121_ :: cl b102_ 214 [(Value.int .i64 y.n)] :: cl b2_ 98 [(Value.int .i64 y.target), (Value.int .i64 y.result), (Value.string y.key), (Value.string y.end_), (Value.int .i64 y.n), (Value.string y.value), (Value.bool y.bare)] :: F) := H126_
       have hz_R_R121_ := Sub.trans' hs114_ hs122_
       have hr127_ : RC R121_ b43_ 0 [(Value.int .i32 (ord32 y.result)), (Value.int .i32 (ord32 y.target)), (Value.slice (some ⟨b23_, 0, none⟩) y.key.size cp24_), (Value.iface 212 (Value.pointer (some ⟨b102_, 0, none⟩))), (Value.slice a33_ m34_ c35_)] := (cl_RC ha124_ (Sub.rfl' _)).mono hs125_
       have H128_ : Holds w107_ (ro R121_ :: F) := (Holds.pkF H126_ [0] 2 :)
       exact ⟨R121_, _, _, rfl, hz_R_R121_, ⟨b43_, rfl, rfl, (⟨_, _, _, (RS.mono hr119_ hs122_), hr127_.take 3⟩)⟩, S110_, H128_⟩
      ·have c101_fp : ¬ (y.target = 1) := of_decide_eq_false c101_f
       refine C_seq (fun K129_ hK129_ => ?_)
       refine C_reg ?_
       refine S_list (T_val (v := (Value.bool (decide (y.target = 2)))) (x_bin rfl rfl rfl) ?_)
       refine S_list (T_val (v := (Value.bool (decide (y.target = 2)))) (x_assign rfl) ?_)
       refine wpList_nil ?_
       refine (X_then (hK129_ _ _ ?_))
       clear hK129_
       refine C_cond (b := decide (y.target = 2)) rfl (fun c130_t => ?_) (fun c130_f => ?_)
       ·have c130_tp : y.target = 2 := of_decide_eq_true c130_t
        refine C_reg ?_
        refine S_list (T_val (v := (Value.pointer (some ⟨b43_, 0, none⟩))) (x_move rfl) ?_)
        refine S_list (T_val (v := (Value.pointer (some ⟨b2_, 4, none⟩))) (by kernel_rfl) ?_)
        refine S_list (T_val (v := (Value.int .i64 y.n)) (x_load1 rfl Try.underlying2 rfl ((Holds.rd H45_ 3 rfl) 4 (Value.int .i64 y.n) rfl)) ?_)
        refine S_list (T_val (v := (Value.agg #[(Value.int .i64 y.n)])) (by kernel_rfl) ?_)
        refine S_list (T_box (v := (Value.agg #[(Value.int .i64 y.n)])) rfl H45_ ?_)
        intro b131_ w132_ S134_ H133_
        have S135_ := Same.trans S47_ S134_
        refine S_list (T_val (v := (Value.iface 215 (Value.pointer (some ⟨b131_, 0, none⟩)))) (by kernel_rfl) ?_)
        refine S_list (T_val (v := (Value.pointer (some ⟨b43_, 0, none⟩))) (by kernel_rfl) ?_)
        refine S_list (T_val (v := (Value.pointer (some ⟨b43_, 3, none⟩))) (by kernel_rfl) ?_)
        refine S_list0 (T_store1 (v := (Value.iface 215 (Value.pointer (some ⟨b131_, 0, none⟩)))) rfl rfl z20 rfl H133_ 1 rfl (Nat.le_of_ble_eq_true (by rfl)) ?_)
        intro w136_ S138_ H137_
        have S139_ := Same.trans S135_ S138_
        refine wpList_nil ?_
        refine (X_blkN (X_then (hK69_ _ _ ?_)))
        clear hK69_
        refine C_seq (fun K140_ hK140_ => ?_)
        refine C_reg ?_
        refine S_list (T_val (v := (Value.pointer (some ⟨b43_, 0, none⟩))) (x_move rfl) ?_)
        refine S_list (T_val (v := (Value.pointer (some ⟨b43_, 0, none⟩))) (x_assign rfl) ?_)
        refine wpList_nil ?_
        refine (X_then (hK140_ _ _ ?_))
        clear hK140_
        refine C_ret ?_
        refine R_any (v := (Value.pointer (some ⟨b43_, 0, none⟩))) (run_results1 rfl rfl) ?_
        have H141_ := ((Holds.bring (Holds.bring H137_ 3 rfl) 3 rfl) :)
        replace H141_ : Holds w136_ (ro R :: sl 5 1 (Value.slice (some ⟨b23_, 0, none⟩) y.key.size cp24_) (List.length (ints y.key)) (bytesV (ints y.key)) :: cl b131_ 217 [(Value.int .i64 y.n)] :: cl b43_ 201 [(Value.int .i32 (ord32 y.result)), (Value.int .i32 (ord32 y.target)), (Value.slice (some ⟨b23_, 0, none⟩) y.key.size cp24_), (Value.iface 215 (Value.pointer (some ⟨b131_, 0, none⟩))), (Value.slice a33_ m34_ c35_)] :: cl b2_ 98 [(Value.int .i64 y.target), (Value.int .i64 y.result), (Value.string y.key), (Value.string y.end_), (Value.int .i64 y.n), (Value.string y.value), (Value.bool y.bare)] :: F) := H141_
        obtain ⟨R142_, hs143_, ⟨R144_, ha145_, hs146_⟩, H147_⟩ := Holds.gift H141_
        have hr148_ : RS R142_ 1 (Value.slice (some ⟨b23_, 0, none⟩) y.key.size cp24_) (List.length (ints y.key)) (bytesV (ints y.key)) := (sl_RS ha145_ (Sub.rfl' _)).mono hs146_
        have H149_ := ((Holds.bring (Holds.bring H147_ 2 rfl) 1 rfl) :)
        obtain ⟨R150_, hs151_, ⟨R152_, ha153_, hs154_⟩, H155_⟩ := Holds.gift H149_
        replace H155_ : Holds w136_ (ro R150_ :: cl b131_ 217 [(Value.int .i64 y.n)] :: cl b2_ 98 [(Value.int .i64 y.target), (Value.int .i64 y.result), (Value.string y.key), (Value.string y.end_), (Value.int .i64 y.n), (Value.string y.value), (Value.bool y.bare)] :: F) := H155_
        have hz_R_R150_ := Sub.trans' hs143_ hs151_
        have hr156_ : RC R150_ b43_ 0 [(Value.int .i32 (ord32 y.result)), (Value.int .i32 (ord32 y.target)), (Value.slice (some ⟨b23_, 0, none⟩) y.key.size cp24_), (Value.iface 215 (Value.pointer (some ⟨b131_, 0, none⟩))), (Value.slice a33_ m34_ c35_)] := (cl_RC ha153_ (Sub.rfl' _)).mono hs154_
        have H157_ : Holds w136_ (ro R150_ :: F) := (Holds.pkF H155_ [0] 2 :)
        exact ⟨R150_, _, _, rfl, hz_R_R150_, ⟨b43_, rfl, rfl, (⟨_, _, _, (RS.mono hr148_ hs151_), hr156_.take 3⟩)⟩, S139_, H157_⟩
       ·have c130_fp : ¬ (y.target = 2) := of_decide_eq_false c130_f
        refine C_seq (fun K158_ hK158_ => ?_)
        refine C_reg ?_
        refine S_list (T_val (v := (Value.bool (decide (y.target = 3)))) (x_bin rfl rfl rfl) ?_)
        refine S_list (T_val (v := (Value.bool (decide (y.target = 3)))) (x_assign rfl) ?_)
        refine wpList_nil ?_
        refine (X_then (hK158_ _ _ ?_))
        clear hK158_
        refine C_cond (b := decide (y.target = 3)) rfl (fun c159_t => ?_) (fun c159_f => ?_)
        ·have c159_tp : y.target = 3 := of_decide_eq_true c159_t
         refine C_reg ?_
         refine S_list (T_val (v := (Value.pointer (some ⟨b43_, 0, none⟩))) (x_move rfl) ?_)
         refine S_list (T_val (v := (Value.pointer (some ⟨b2_, 5, none⟩))) (by kernel_rfl) ?_)
         refine S_list (T_val (v := (Value.string y.value)) (x_load1 rfl Try.underlying9 rfl ((Holds.rd H45_ 3 rfl) 5 (Value.string y.value) rfl)) ?_)
         refine S_list (T_s2b rfl Try.underlying9 Try.underlying122 Try.underlying5 H45_ ?_)
         intro b160_ cp161_ w162_ S164_ hc165_ H163_
         have S166_ := Same.trans S47_ S164_
         have H167_ := Holds.resl H163_ 0 rfl (byteCells_bytesV _ : byteCells y.value = bytesV (ints y.value)) rfl
         have H168_ := Holds.resl H167_ 0 rfl (rfl : bytesV (ints y.value) = bytesV (ints y.value)) ((ints_length _).symm : y.value.size = (List.length (ints y.value)))
         refine S_list (T_val (v := (Value.agg #[(Value.slice (some ⟨b160_, 0, none⟩) y.value.size cp161_)])) (by kernel_rfl) ?_)
         refine S_list (T_box (v := (Value.agg #[(Value.slice (some ⟨b160_, 0, none⟩) y.value.size cp161_)])) rfl H168_ ?_)
         intro b169_ w170_ S172_ H171_
         have S173_ := Same.trans S166_ S172_
         refine S_list (T_val (v := (Value.iface 218 (Value.pointer (some ⟨b169_, 0, none⟩)))) (by kernel_rfl) ?_)
         refine S_list (T_val (v := (Value.pointer (some ⟨b43_, 0, none⟩))) (by kernel_rfl) ?_)
         refine S_list (T_val (v := (Value.pointer (some ⟨b43_, 3, none⟩))) (by kernel_rfl) ?_)
         refine S_list0 (T_store1 (v := (Value.iface 218 (Value.pointer (some ⟨b169_, 0, none⟩)))) rfl rfl z20 rfl H171_ 2 rfl (Nat.le_of_ble_eq_true (by rfl)) ?_)
         intro w174_ S176_ H175_
         have S177_ := Same.trans S173_ S176_
         refine wpList_nil ?_
         refine (X_blkN (X_then (hK69_ _ _ ?_)))
         clear hK69_
         refine C_seq (fun K178_ hK178_ => ?_)
         refine C_reg ?_
         refine S_list (T_val (v := (Value.pointer (some ⟨b43_, 0, none⟩))) (x_move rfl) ?_)
         refine S_list (T_val (v := (Value.pointer (some ⟨b43_, 0, none⟩))) (x_assign rfl) ?_)
         refine wpList_nil ?_
         refine (X_then (hK178_ _ _ ?_))
         clear hK178_
         refine C_ret ?_
         refine R_any (v := (Value.pointer (some ⟨b43_, 0, none⟩))) (run_results1 rfl rfl) ?_
         have H179_ := ((Holds.bring (Holds.bring H175_ 4 rfl) 4 rfl) :)
         replace H179_ : Holds w174_ (ro R :: sl 5 1 (Value.slice (some ⟨b23_, 0, none⟩) y.key.size cp24_) (List.length (ints y.key)) (bytesV (ints y.key)) :: cl b169_ 220 [(Value.slice (some ⟨b160_, 0, none⟩) y.value.size cp161_)] :: sl 5 1 (Value.slice (some ⟨b160_, 0, none⟩) y.value.size cp161_) (List.length (ints y.value)) (bytesV (ints y.value)) :: cl b43_ 201 [(Value.int .i32 (ord32 y.result)), (Value.int .i32 (ord32 y.target)), (Value.slice (some ⟨b23_, 0, none⟩) y.key.size cp24_), (Value.iface 218 (Value.pointer (some ⟨b169_, 0, none⟩))), (Value.slice a33_ m34_ c35_)] :: cl b2_ 98 [(Value.int .i64 y.target), (Value.int .i64 y.result), (Value.string y.key), (Value.string y.end_), (Value.int .i64 y.n), (Value.string y.value), (Value.bool y.bare)] :: F) := H179_
         obtain ⟨R180_, hs181_, ⟨R182_, ha183_, hs184_⟩, H185_⟩ := Holds.gift H179_
         have hr186_ : RS R180_ 1 (Value.slice (some ⟨b23_, 0, none⟩) y.key.size cp24_) (List.length (ints y.key)) (bytesV (ints y.key)) := (sl_RS ha183_ (Sub.rfl' _)).mono hs184_
         have H187_ := ((Holds.bring (Holds.bring H185_ 3 rfl) 1 rfl) :)
         obtain ⟨R188_, hs189_, ⟨R190_, ha191_, hs192_⟩, H193_⟩ := Holds.gift H187_
         replace H193_ : Holds w174_ (ro R188_ :: cl b169_ 220 [(Value.slice (some ⟨b160_, 0, none⟩) y.value.size cp161_)] :: sl 5 1 (Value.slice (some ⟨b160_, 0, none⟩) y.value.size cp161_) (List.length (ints y.value)) (bytesV (ints y.value)) :: cl b2_ 98 [(Value.int .i64 y.target), (Value.int .i64 y.result), (Value.string y.key), (Value.string y.end_), (Value.int .i64 y.n), (Value.string y.value), (Value.bool y.bare)] :: F) := H193_
         have hz_R_R188_ := Sub.trans' hs181_ hs189_
         have hr194_ : RC R188_ b43_ 0 [(Value.int .i32 (ord32 y.result)), (Value.int .i32 (ord32 y.target)), (Value.slice (some ⟨b23_, 0, none⟩) y.key.size cp24_), (Value.iface 218 (Value.pointer (some ⟨b169_, 0, none⟩))), (Value.slice a33_ m34_ c35_)] := (cl_RC ha191_ (Sub.rfl' _)).mono hs192_
         have H195_ : Holds w174_ (ro R188_ :: F) := (Holds.pkF H193_ [0] 3 :)
         exact ⟨R188_, _, _, rfl, hz_R_R188_, ⟨b43_, rfl, rfl, (⟨_, _, _, (RS.mono hr186_ hs189_), hr194_.take 3⟩)⟩, S177_, H195_⟩
        ·have c159_fp : ¬ (y.target = 3) := of_decide_eq_false c159_f
         refine C_seq (fun K196_ hK196_ => ?_)
         refine C_reg ?_
         refine S_list (T_val (v := (Value.bool (decide (y.target = 4)))) (x_bin rfl rfl rfl) ?_)
         refine S_list (T_val (v := (Value.bool (decide (y.target = 4)))) (x_assign rfl) ?_)
         refine wpList_nil ?_
         refine (X_then (hK196_ _ _ ?_))
         clear hK196_
         refine C_cond (b := decide (y.target = 4)) rfl (fun c197_t => ?_) (fun c197_f => ?_)
         ·have c197_tp : y.target = 4 := of_decide_eq_true c197_t
          refine C_reg ?_
          refine S_list (T_val (v := (Value.pointer (some ⟨b43_, 0, none⟩))) (x_move rfl) ?_)
          refine S_list (T_val (v := (Value.pointer (some ⟨b2_, 4, none⟩))) (by kernel_rfl) ?_)
          refine S_list (T_val (v := (Value.int .i64 y.n)) (x_load1 rfl Try.underlying2 rfl ((Holds.rd H45_ 3 rfl) 4 (Value.int .i64 y.n) rfl)) ?_)
          refine S_list (T_val (v := (Value.agg #[(Value.int .i64 y.n)])) (by kernel_rfl) ?_)
          refine S_list (T_box (v := (Value.agg #[(Value.int .i64 y.n)])) rfl H45_ ?_)
          intro b198_ w199_ S201_ H200_
          have S202_ := Same.trans S47_ S201_
          refine S_list (T_val (v := (Value.iface 221 (Value.pointer (some ⟨b198_, 0, none⟩)))) (by kernel_rfl) ?_)
          refine S_list (T_val (v := (Value.pointer (some ⟨b43_, 0, none⟩))) (by kernel_rfl) ?_)
          refine S_list (T_val (v := (Value.pointer (some ⟨b43_, 3, none⟩))) (by kernel_rfl) ?_)
          refine S_list0 (T_store1 (v := (Value.iface 221 (Value.pointer (some ⟨b198_, 0, none⟩)))) rfl rfl z20 rfl H200_ 1 rfl (Nat.le_of_ble_eq_true (by rfl)) ?_)
          intro w203_ S205_ H204_
          have S206_ := Same.trans S202_ S205_
          refine wpList_nil ?_
          refine (X_blkN (X_then (hK69_ _ _ ?_)))
          clear hK69_
          refine C_seq (fun K207_ hK207_ => ?_)
          refine C_reg ?_
          refine S_list (T_val (v := (Value.pointer (some ⟨b43_, 0, none⟩))) (x_move rfl) ?_)
          refine S_list (T_val (v := (Value.pointer (some ⟨b43_, 0, none⟩))) (x_assign rfl) ?_)
          refine wpList_nil ?_
          refine (X_then (hK207_ _ _ ?_))
          clear hK207_
          refine C_ret ?_
          refine R_any (v := (Value.pointer (some ⟨b43_, 0, none⟩))) (run_results1 rfl rfl) ?_
          have H208_ := ((Holds.bring (Holds.bring H204_ 3 rfl) 3 rfl) :)
          replace H208_ : Holds w203_ (ro R :: sl 5 1 (Value.slice (some ⟨b23_, 0, none⟩) y.key.size cp24_) (List.length (ints y.key)) (bytesV (ints y.key)) :: cl b198_ 223 [(Value.int .i64 y.n)] :: cl b43_ 201 [(Value.int .i32 (ord32 y.result)), (Value.int .i32 (ord32 y.target)), (Value.slice (some ⟨b23_, 0, none⟩) y.key.size cp24_), (Value.iface 221 (Value.pointer (some ⟨b198_, 0, none⟩))), (Value.slice a33_ m34_ c35_)] :: cl b2_ 98 [(Value.int .i64 y.target), (Value.int .i64 y.result), (Value.string y.key), (Value.string y.end_), (Value.int .i64 y.n), (Value.string y.value), (Value.bool y.bare)] :: F) := H208_
          obtain ⟨R209_, hs210_, ⟨R211_, ha212_, hs213_⟩, H214_⟩ := Holds.gift H208_
          have hr215_ : RS R209_ 1 (Value.slice (some ⟨b23_, 0, none⟩) y.key.size cp24_) (List.length (ints y.key)) (bytesV (ints y.key)) := (sl_RS ha212_ (Sub.rfl' _)).mono hs213_
          have H216_ := ((Holds.bring (Holds.bring H214_ 2 rfl) 1 rfl) :)
          obtain ⟨R217_, hs218_, ⟨R219_, ha220_, hs221_⟩, H222_⟩ := Holds.gift H216_
          replace H222_ : Holds w203_ (ro R217_ :: cl b198_ 223 [(Value.int .i64 y.n)] :: cl b2_ 98 [(Value.int .i64 y.target), (Value.int .i64 y.result), (Value.string y.key), (Value.string y.end_), (Value.int .i64 y.n), (Value.string y.value), (Value.bool y.bare)] :: F) := H222_
          have hz_R_R217_ := Sub.trans' hs210_ hs218_
          have hr223_ : RC R217_ b43_ 0 [(Value.int .i32 (ord32 y.result)), (Value.int .i32 (ord32 y.target)), (Value.slice (some ⟨b23_, 0, none⟩) y.key.size cp24_), (Value.iface 221 (Value.pointer (some ⟨b198_, 0, none⟩))), (Value.slice a33_ m34_ c35_)] := (cl_RC ha220_ (Sub.rfl' _)).mono hs221_
          have H224_ : Holds w203_ (ro R217_ :: F) := (Holds.pkF H222_ [0] 2 :)
          exact ⟨R217_, _, _, rfl, hz_R_R217_, ⟨b43_, rfl, rfl, (⟨_, _, _, (RS.mono hr215_ hs218_), hr223_.take 3⟩)⟩, S206_, H224_⟩
         ·have c197_fp : ¬ (y.target = 4) := of_decide_eq_false c197_f
          refine C_skip (X_blkN (X_then (hK69_ _ _ ?_)))
          clear hK69_
          refine C_seq (fun K225_ hK225_ => ?_)
          refine C_reg ?_
          refine S_list (T_val (v := (Value.pointer (some ⟨b43_, 0, none⟩))) (x_move rfl) ?_)
          refine S_list (T_val (v := (Value.pointer (some ⟨b43_, 0, none⟩))) (x_assign rfl) ?_)
          refine wpList_nil ?_
          refine (X_then (hK225_ _ _ ?_))
          clear hK225_
          refine C_ret ?_
          refine R_any (v := (Value.pointer (some ⟨b43_, 0, none⟩))) (run_results1 rfl rfl) ?_
          have H226_ := ((Holds.bring (Holds.bring H45_ 2 rfl) 2 rfl) :)
          obtain ⟨R227_, hs228_, ⟨R229_, ha230_, hs231_⟩, H232_⟩ := Holds.gift H226_
          have hr233_ : RS R227_ 1 (Value.slice (some ⟨b23_, 0, none⟩) y.key.size cp24_) (List.length (ints y.key)) (bytesV (ints y.key)) := (sl_RS ha230_ (Sub.rfl' _)).mono hs231_
          obtain ⟨R234_, hs235_, ⟨R236_, ha237_, hs238_⟩, H239_⟩ := Holds.gift H232_
          replace H239_ : Holds w44_ (ro R234_ :: cl b2_ 98 [(Value.int .i64 y.target), (Value.int .i64 y.result), (Value.string y.key), (Value.string y.end_), (Value.int .i64 y.n), (Value.string y.value), (Value.bool y.bare)] :: F) := H239_
          have hz_R_R234_ := Sub.trans' hs228_ hs235_
          have hr240_ : RC R234_ b43_ 0 [(Value.int .i32 (ord32 y.result)), (Value.int .i32 (ord32 y.target)), (Value.slice (some ⟨b23_, 0, none⟩) y.key.size cp24_), (Value.nilIface), (Value.slice a33_ m34_ c35_)] := (cl_RC ha237_ (Sub.rfl' _)).mono hs238_
          have H241_ : Holds w44_ (ro R234_ :: F) := (Holds.pkF H239_ [0] 1 :)
          exact ⟨R234_, _, _, rfl, hz_R_R234_, ⟨b43_, rfl, rfl, (⟨_, _, _, (RS.mono hr233_ hs235_), hr240_.take 3⟩)⟩, S47_, H241_⟩
   refine AllR.cons ?_ AllR.nil
   refine A_op (ls' := #[true, true, true, true, true, true, true, true, false, true, true, true, false, false, false]) rfl (by kernel_rfl) (T_call (al := [(Value.string y.end_)]) (pre := []) rfl rfl cb67 (ckBytes R y.end_) H19_ ?_)
   rintro v242_ p249_ w246_ ⟨a243_, m244_, c245_, rfl, rfl⟩ S248_ H247_
   have S250_ := Same.trans S22_ S248_
   refine ⟨⟨Holds.rd H247_ 1 rfl, (Holds.ro_at H247_ 0 rfl)⟩, ?_⟩
   refine A_ready (i := 8) (rs := []) (by kernel_rfl) ?_
   refine AllR.cons ?_ AllR.nil
   refine A_op (ls' := #[true, true, true, true, true, true, true, true, true, true, true, true, false, false, false]) rfl (by kernel_rfl) (T_s2b rfl Try.underlying9 Try.underlying122 Try.underlying5 H247_ ?_)
   intro b251_ cp252_ w253_ S255_ hc256_ H254_
   have S257_ := Same.trans S250_ S255_
   have H258_ := Holds.resl H254_ 0 rfl (byteCells_bytesV _ : byteCells y.key = bytesV (ints y.key)) rfl
   have H259_ := Holds.resl H258_ 0 rfl (rfl : bytesV (ints y.key) = bytesV (ints y.key)) ((ints_length _).symm : y.key.size = (List.length (ints y.key)))
   refine ⟨⟨Holds.rd H259_ 2 rfl, (Holds.ro_at H259_ 1 rfl)⟩, ?_⟩
   have hq260_ := And.intro (Holds.rd H259_ 2 rfl) ((Holds.ro_at H259_ 1 rfl))
   refine A_tk 12 (v := (Value.agg #[(Value.int .i32 (ord32 y.result)), (Value.int .i32 (ord32 y.target)), (Value.slice (some ⟨b251_, 0, none⟩) y.key.size cp252_), (Value.nilIface), (Value.slice a243_ m244_ c245_)])) rfl (by kernel_rfl) (fun w hS => by kernel_rfl) hq260_ ?_
   refine A_ready (i := 13) (rs := []) (by kernel_rfl) ?_
   refine AllR.cons ?_ AllR.nil
   refine A_op (ls' := #[true, true, true, true, true, true, true, true, true, true, true, true, true, true, false]) rfl (by kernel_rfl) (T_box (v := (Value.agg #[(Value.int .i32 (ord32 y.result)), (Value.int .i32 (ord32 y.target)), (Value.slice (some ⟨b251_, 0, none⟩) y.key.size cp252_), (Value.nilIface), (Value.slice a243_ m244_ c245_)])) rfl H259_ ?_)
   intro b261_ w262_ S264_ H263_
   have S265_ := Same.trans S257_ S264_
   refine ⟨⟨Holds.rd H263_ 3 rfl, (Holds.ro_at H263_ 2 rfl)⟩, ?_⟩
   have hq266_ := And.intro (Holds.rd H263_ 3 rfl) ((Holds.ro_at H263_ 2 rfl))
   refine A_tk 14 (v := (Value.pointer (some ⟨b261_, 0, none⟩))) rfl (by kernel_rfl) (fun w hS => x_assign rfl) hq266_ ?_
   refine A_done (by kernel_rfl) ?_
   refine (X_then (hK7_ _ _ ?_))
   clear hK7_
   refine C_seq (fun K267_ hK267_ => ?_)
   refine C_seq (fun K268_ hK268_ => ?_)
   refine C_reg ?_
   refine S_list (T_val (v := (Value.pointer (some ⟨b2_, 6, none⟩))) (by kernel_rfl) ?_)
   refine S_list (T_val (v := (Value.bool y.bare)) (x_load1 rfl Try.underlying4 rfl ((Holds.rd H263_ 3 rfl) 6 (Value.bool y.bare) rfl)) ?_)
   refine wpList_nil ?_
   refine (X_then (hK268_ _ _ ?_))
   clear hK268_
   refine C_cond (b := y.bare) rfl (fun c269_t => ?_) (fun c269_f => ?_)
   ·skip
    refine C_seq (fun K270_ hK270_ => ?_)
    refine C_reg ?_
    refine S_list (T_val (v := (Value.pointer (some ⟨b261_, 0, none⟩))) (x_move rfl) ?_)
    refine S_list (T_val (v := (Value.pointer (some ⟨b261_, 0, none⟩))) (x_assign rfl) ?_)
    refine wpList_nil ?_
    refine (X_then (hK270_ _ _ ?_))
    clear hK270_
    refine C_ret (X_thenR ?_)
    refine R_any (v := (Value.pointer (some ⟨b261_, 0, none⟩))) (run_results1 rfl rfl) ?_
    have H271_ := ((Holds.bring (Holds.bring H263_ 1 rfl) 2 rfl) :)
    replace H271_ : Holds w262_ (ro R :: sl 5 1 (Value.slice (some ⟨b251_, 0, none⟩) y.key.size cp252_) (List.length (ints y.key)) (bytesV (ints y.key)) :: cl b261_ 201 [(Value.int .i32 (ord32 y.result)), (Value.int .i32 (ord32 y.target)), (Value.slice (some ⟨b251_, 0, none⟩) y.key.size cp252_), (Value.nilIface), (Value.slice a243_ m244_ c245_)] :: cl b2_ 98 [(Value.int .i64 y.target), (Value.int .i64 y.result), (Value.string y.key), (Value.string y.end_), (Value.int .i64 y.n), (Value.string y.value), (Value.bool y.bare)] :: F) := H271_
    obtain ⟨R272_, hs273_, ⟨R274_, ha275_, hs276_⟩, H277_⟩ := Holds.gift H271_
    have hr278_ : RS R272_ 1 (Value.slice (some ⟨b251_, 0, none⟩) y.key.size cp252_) (List.length (ints y.key)) (bytesV (ints y.key)) := (sl_RS ha275_ (Sub.rfl' _)).mono hs276_
    obtain ⟨R279_, hs280_, ⟨R281_, ha282_, hs283_⟩, H284_⟩ := Holds.gift H277_
    have hz_R_R279_ := Sub.trans' hs273_ hs280_
    have hr285_ : RC R279_ b261_ 0 [(Value.int .i32 (ord32 y.result)), (Value.int .i32 (ord32 y.target)), (Value.slice (some ⟨b251_, 0, none⟩) y.key.size cp252_), (Value.nilIface), (Value.slice a243_ m244_ c245_)] := (cl_RC ha282_ (Sub.rfl' _)).mono hs283_
    have H286_ : Holds w262_ (ro R279_ :: F) := (Holds.pkF H284_ [0] 1 :)
    exact ⟨R279_, _, _, rfl, hz_R_R279_, ⟨b261_, rfl, rfl, (⟨_, _, _, (RS.mono hr278_ hs280_), hr285_.take 3⟩)⟩, S265_, H286_⟩
   ·skip
    refine C_skip (X_then (hK267_ _ _ ?_))
    clear hK267_
    refine C_seq (fun K287_ hK287_ => ?_)
    refine C_seq (fun K288_ hK288_ => ?_)
    refine C_reg ?_
    refine S_list (T_val (v := (Value.pointer (some ⟨b2_, 0, none⟩))) (by kernel_rfl) ?_)
    refine S_list (T_val (v := (Value.int .i64 y.target)) (x_load1 rfl Try.underlying3 rfl ((Holds.rd H263_ 3 rfl) 0 (Value.int .i64 y.target) rfl)) ?_)
    refine wpList_nil ?_
    refine (X_then (hK288_ _ _ ?_))
    clear hK288_
    refine C_block ?_
    refine C_seq (fun K289_ hK289_ => ?_)
    refine C_reg ?_
    refine S_list (T_val (v := (Value.bool (decide (y.target = 0)))) (x_bin rfl rfl rfl) ?_)
    refine S_list (T_val (v := (Value.bool (decide (y.target = 0)))) (x_assign rfl) ?_)
    refine wpList_nil ?_
    refine (X_then (hK289_ _ _ ?_))
    clear hK289_
    refine C_cond (b := decide (y.target = 0)) rfl (fun c290_t => ?_) (fun c290_f => ?_)
    ·have c290_tp : y.target = 0 := of_decide_eq_true c290_t
     refine C_reg ?_
     refine S_list (T_val (v := (Value.pointer (some ⟨b261_, 0, none⟩))) (x_move rfl) ?_)
     refine S_list (T_val (v := (Value.pointer (some ⟨b2_, 4, none⟩))) (by kernel_rfl) ?_)
     refine S_list (T_val (v := (Value.int .i64 y.n)) (x_load1 rfl Try.underlying2 rfl ((Holds.rd H263_ 3 rfl) 4 (Value.int .i64 y.n) rfl)) ?_)
     refine S_list (T_val (v := (Value.agg #[(Value.int .i64 y.n)])) (by kernel_rfl) ?_)
     refine S_list (T_box (v := (Value.agg #[(Value.int .i64 y.n)])) rfl H263_ ?_)
     intro b291_ w292_ S294_ H293_
     have S295_ := Same.trans S265_ S294_
     refine S_list (T_val (v := (Value.iface 209 (Value.pointer (some ⟨b291_, 0, none⟩)))) (by kernel_rfl) ?_)
     refine S_list (T_val (v := (Value.pointer (some ⟨b261_, 0, none⟩))) (by kernel_rfl) ?_)
     refine S_list (T_val (v := (Value.pointer (some ⟨b261_, 3, none⟩))) (by kernel_rfl) ?_)
     refine S_list0 (T_store1 (v := (Value.iface 209 (Value.pointer (some ⟨b291_, 0, none⟩)))) rfl rfl z20 rfl H293_ 1 rfl (Nat.le_of_ble_eq_true (by rfl)) ?_)
     intro w296_ S298_ H297_
     have S299_ := Same.trans S295_ S298_
     refine wpList_nil ?_
     refine (X_blkN (X_then (hK287_ _ _ ?_)))
     clear hK287_
     refine C_seq (fun K300_ hK300_ => ?_)
     refine C_reg ?_
     refine S_list (T_val (v := (Value.pointer (some ⟨b261_, 0, none⟩))) (x_move rfl) ?_)
     refine S_list (T_val (v := (Value.pointer (some ⟨b261_, 0, none⟩))) (x_assign rfl) ?_)
     refine wpList_nil ?_
     refine (X_then (hK300_ _ _ ?_))
     clear hK300_
     refine C_ret ?_
     refine R_any (v := (Value.pointer (some ⟨b261_, 0, none⟩))) (run_results1 rfl rfl) ?_
     have H301_ := ((Holds.bring (Holds.bring H297_ 2 rfl) 3 rfl) :)
     replace H301_ : Holds w296_ (ro R :: sl 5 1 (Value.slice (some ⟨b251_, 0, none⟩) y.key.size cp252_) (List.length (ints y.key)) (bytesV (ints y.key)) :: cl b291_ 211 [(Value.int .i64 y.n)] :: cl b261_ 201 [(Value.int .i32 (ord32 y.result)), (Value.int .i32 (ord32 y.target)), (Value.slice (some ⟨b251_, 0, none⟩) y.key.size cp252_), (Value.iface 209 (Value.pointer (some ⟨b291_, 0, none⟩))), (Value.slice a243_ m244_ c245_)] :: cl b2_ 98 [(Value.int .i64 y.target), (Value.int .i64 y.result), (Value.string y.key), (Value.string y.end_), (Value.int .i64 y.n), (Value.string y.value), (Value.bool y.bare)] :: F) := H301_
     obtain ⟨R302_, hs303_, ⟨R304_, ha305_, hs306_⟩, H307_⟩ := Holds.gift H301_
     have hr308_ : RS R302_ 1 (Value.slice (some ⟨b251_, 0, none⟩) y.key.size cp252_) (List.length (ints y.key)) (bytesV (ints y.key)) := (sl_RS ha305_ (Sub.rfl' _)).mono hs306_
     have H309_ := ((Holds.bring (Holds.bring H307_ 2 rfl) 1 rfl) :)
     obtain ⟨R310_, hs311_, ⟨R312_, ha313_, hs314_⟩, H315_⟩ := Holds.gift H309_
     replace H315_ : Holds w296_ (ro R310_ :: cl b291_ 211 [(Value.int .i64 y.n)] :: cl b2_ 98 [(Value.int .i64 y.target), (Value.int .i64 y.result), (Value.string y.key), (Value.string y.end_), (Value.int .i64 y.n), (Value.string y.value), (Value.bool y.bare)] :: F) := H315_
     have hz_R_R310_ := Sub.trans' hs303_ hs311_
     have hr316_ : RC R310_ b261_ 0 [(Value.int .i32 (ord32 y.result)), (Value.int .i32 (ord32 y.target)), (Value.slice (some ⟨b251_, 0, none⟩) y.key.size cp252_), (Value.iface 209 (Value.pointer (some ⟨b291_, 0, none⟩))), (Value.slice a243_ m244_ c245_)] := (cl_RC ha313_ (Sub.rfl' _)).mono hs314_
     have H317_ : Holds w296_ (ro R310_ :: F) := (Holds.pkF H315_ [0] 2 :)
     exact ⟨R310_, _, _, rfl, hz_R_R310_, ⟨b261_, rfl, rfl, (⟨_, _, _, (RS.mono hr308_ hs311_), hr316_.take 3⟩)⟩, S299_, H317_⟩
    ·have c290_fp : ¬ (y.target = 0) := of_decide_eq_false c290_f
     refine C_seq (fun K318_ hK318_ => ?_)
     refine C_reg ?_
     refine S_list (T_val (v := (Value.bool (decide (y.target = 1)))) (x_bin rfl rfl rfl) ?_)
     refine S_list (T_val (v := (Value.bool (decide (y.target = 1)))) (x_assign rfl) ?_)
     refine wpList_nil ?_
     refine (X_then (hK318_ _ _ ?_))
     clear hK318_
     refine C_cond (b := decide (y.target = 1)) rfl (fun c319_t => ?_) (fun c319_f => ?_)
     ·have c319_tp : y.target = 1 := of_decide_eq_true c319_t
      refine C_reg ?_
      refine S_list (T_val (v := (Value.pointer (some ⟨b261_, 0, none⟩))) (x_move rfl) ?_)
      refine S_list (T_val (v := (Value.pointer (some ⟨b2_, 4, none⟩))) (by kernel_rfl) ?_)
      refine S_list (T_val (v := (Value.int .i64 y.n)) (x_load1 rfl Try.underlying2 rfl ((Holds.rd H263_ 3 rfl) 4 (Value.int .i64 y.n) rfl)) ?_)
      refine S_list (T_val (v := (Value.agg #[(Value.int .i64 y.n)])) (by kernel_rfl) ?_)
      refine S_list (T_box (v := (Value.agg #[(Value.int .i64 y.n)])) rfl H263_ ?_)
      intro b320_ w321_ S323_ H322_
      have S324_ := Same.trans S265_ S323_
      refine S_list (T_val (v := (Value.iface 212 (Value.pointer (some ⟨b320_, 0, none⟩)))) (by kernel_rfl) ?_)
      refine S_list (T_val (v := (Value.pointer (some ⟨b261_, 0, none⟩))) (by kernel_rfl) ?_)
      refine S_list (T_val (v := (Value.pointer (some ⟨b261_, 3, none⟩))) (by kernel_rfl) ?_)
      refine S_list0 (T_store1 (v := (Value.iface 212 (Value.pointer (some ⟨b320_, 0, none⟩)))) rfl rfl z20 rfl H322_ 1 rfl (Nat.le_of_ble_eq_true (by rfl)) ?_)
      intro w325_ S327_ H326_
      have S328_ := Same.trans S324_ S327_
      refine wpList_nil ?_
      refine (X_blkN (X_then (hK287_ _ _ ?_)))
      clear hK287_
      refine C_seq (fun K329_ hK329_ => ?_)
      refine C_reg ?_
      refine S_list (T_val (v := (Value.pointer (some ⟨b261_, 0, none⟩))) (x_move rfl) ?_)
      refine S_list (T_val (v := (Value.pointer (some ⟨b261_, 0, none⟩))) (x_assign rfl) ?_)
      refine wpList_nil ?_
      refine (X_then (hK329_ _ _ ?_))
      clear hK329_
      refine C_ret ?_
      refine R_any (v := (Value.pointer (some ⟨b261_, 0, none⟩))) (run_results1 rfl rfl) ?_
      have H330_ := ((Holds.bring (Holds.bring H326_ 2 rfl) 3 rfl) :)
      replace H330_ : Holds w325_ (ro R :: sl 5 1 (Value.slice (some ⟨b251_, 0, none⟩) y.key.size cp252_) (List.length (ints y.key)) (bytesV (ints y.key)) :: cl b320_ 214 [(Value.int .i64 y.n)] :: cl b261_ 201 [(Value.int .i32 (ord32 y.result)), (Value.int .i32 (ord32 y.target)), (Value.slice (some ⟨b251_, 0, none⟩) y.key.size cp252_), (Value.iface 212 (Value.pointer (some ⟨b320_, 0, none⟩))), (Value.slice a243_ m244_ c245_)] :: cl b2_ 98 [(Value.int .i64 y.target), (Value.int .i64 y.result), (Value.string y.key), (Value.string y.end_), (Value.int .i64 y.n), (Value.string y.value), (Value.bool y.bare)] :: F) := H330_
      obtain ⟨R331_, hs332_, ⟨R333_, ha334_, hs335_⟩, H336_⟩ := Holds.gift H330_
      have hr337_ : RS R331_ 1 (Value.slice (some ⟨b251_, 0, none⟩) y.key.size cp252_) (List.length (ints y.key)) (bytesV (ints y.key)) := (sl_RS ha334_ (Sub.rfl' _)).mono hs335_
      have H338_ := ((Holds.bring (Holds.bring H336_ 2 rfl) 1 rfl) :)
      obtain ⟨R339_, hs340_, ⟨R341_, ha342_, hs343_⟩, H344_⟩ := Holds.gift H338_
      replace H344_ : Holds w325_ (ro R339_ :: cl b320_ 214 [(Value.int .i64 y.n)] :: cl b2_ 98 [(Value.int .i64 y.target), (Value.int .i64 y.result), (Value.string y.key), (Value.string y.end_), (Value.int .i64 y.n), (Value.string y.value), (Value.bool y.bare)] :: F) := H344_
      have hz_R_R339_ := Sub.trans' hs332_ hs340_
      have hr345_ : RC R339_ b261_ 0 [(Value.int .i32 (ord32 y.result)), (Value.int .i32 (ord32 y.target)), (Value.slice (some ⟨b251_, 0, none⟩) y.key.size cp252_), (Value.iface 212 (Value.pointer (some ⟨b320_, 0, none⟩))), (Value.slice a243_ m244_ c245_)] := (cl_RC ha342_ (Sub.rfl' _)).mono hs343_
      have H346_ : Holds w325_ (ro R339_ :: F) := (Holds.pkF H344_ [0] 2 :)
      exact ⟨R339_, _, _, rfl, hz_R_R339_, ⟨b261_, rfl, rfl, (⟨_, _, _, (RS.mono hr337_ hs340_), hr345_.take 3⟩)⟩, S328_, H346_⟩
     ·have c319_fp : ¬ (y.target = 1) := of_decide_eq_false c319_f
      refine C_seq (fun K347_ hK347_ => ?_)
      refine C_reg ?_
      refine S_list (T_val (v := (Value.bool (decide (y.target = 2)))) (x_bin rfl rfl rfl) ?_)
      refine S_list (T_val (v := (Value.bool (decide (y.target = 2)))) (x_assign rfl) ?_)
      refine wpList_nil ?_
      refine (X_then (hK347_ _ _ ?_))
      clear hK347_
      refine C_cond (b := decide (y.target = 2)) rfl (fun c348_t => ?_) (fun c348_f => ?_)
      ·have c348_tp : y.target = 2 := of_decide_eq_true c348_t
       refine C_reg ?_
       refine S_list (T_val (v := (Value.pointer (some ⟨b261_, 0, none⟩))) (x_move rfl) ?_)
       refine S_list (T_val (v := (Value.pointer (some ⟨b2_, 4, none⟩))) (by kernel_rfl) ?_)
       refine S_list (T_val (v := (Value.int .i64 y.n)) (x_load1 rfl Try.underlying2 rfl ((Holds.rd H263_ 3 rfl) 4 (Value.int .i64 y.n) rfl)) ?_)
       refine S_list (T_val (v := (Value.agg #[(Value.int .i64 y.n)])) (by kernel_rfl) ?_)
       refine S_list (T_box (v := (Value.agg #[(Value.int .i64 y.n)])) rfl H263_ ?_)
       intro b349_ w350_ S352_ H351_
       have S353_ := Same.trans S265_ S352_
       refine S_list (T_val (v := (Value.iface 215 (Value.pointer (some ⟨b349_, 0, none⟩)))) (by kernel_rfl) ?_)
       refine S_list (T_val (v := (Value.pointer (some ⟨b261_, 0, none⟩))) (by kernel_rfl) ?_)
       refine S_list (T_val (v := (Value.pointer (some ⟨b261_, 3, none⟩))) (by kernel_rfl) ?_)
       refine S_list0 (T_store1 (v := (Value.iface 215 (Value.pointer (some ⟨b349_, 0, none⟩)))) rfl rfl z20 rfl H351_ 1 rfl (Nat.le_of_ble_eq_true (by rfl)) ?_)
       intro w354_ S356_ H355_
       have S357_ := Same.trans S353_ S356_
       refine wpList_nil ?_
       refine (X_blkN (X_then (hK287_ _ _ ?_)))
       clear hK287_
       refine C_seq (fun K358_ hK358_ => ?_)
       refine C_reg ?_
       refine S_list (T_val (v := (Value.pointer (some ⟨b261_, 0, none⟩))) (x_move rfl) ?_)
       refine S_list (T_val (v := (Value.pointer (some ⟨b261_, 0, none⟩))) (x_assign rfl) ?_)
       refine wpList_nil ?_
       refine (X_then (hK358_ _ _ ?_))
       clear hK358_
       refine C_ret ?_
       refine R_any (v := (Value.pointer (some ⟨b261_, 0, none⟩))) (run_results1 rfl rfl) ?_
       have H359_ := ((Holds.bring (Holds.bring H355_ 2 rfl) 3 rfl) :)
       replace H359_ : Holds w354_ (ro R :: sl 5 1 (Value.slice (some ⟨b251_, 0, none⟩) y.key.size cp252_) (List.length (ints y.key)) (bytesV (ints y.key)) :: cl b349_ 217 [(Value.int .i64 y.n)] :: cl b261_ 201 [(Value.int .i32 (ord32 y.result)), (Value.int .i32 (ord32 y.target)), (Value.slice (some ⟨b251_, 0, none⟩) y.key.size cp252_), (Value.iface 215 (Value.pointer (some ⟨b349_, 0, none⟩))), (Value.slice a243_ m244_ c245_)] :: cl b2_ 98 [(Value.int .i64 y.target), (Value.int .i64 y.result), (Value.string y.key), (Value.string y.end_), (Value.int .i64 y.n), (Value.string y.value), (Value.bool y.bare)] :: F) := H359_
       obtain ⟨R360_, hs361_, ⟨R362_, ha363_, hs364_⟩, H365_⟩ := Holds.gift H359_
       have hr366_ : RS R360_ 1 (Value.slice (some ⟨b251_, 0, none⟩) y.key.size cp252_) (List.length (ints y.key)) (bytesV (ints y.key)) := (sl_RS ha363_ (Sub.rfl' _)).mono hs364_
       have H367_ := ((Holds.bring (Holds.bring H365_ 2 rfl) 1 rfl) :)
       obtain ⟨R368_, hs369_, ⟨R370_, ha371_, hs372_⟩, H373_⟩ := Holds.gift H367_
       replace H373_ : Holds w354_ (ro R368_ :: cl b349_ 217 [(Value.int .i64 y.n)] :: cl b2_ 98 [(Value.int .i64 y.target), (Value.int .i64 y.result), (Value.string y.key), (Value.string y.end_), (Value.int .i64 y.n), (Value.string y.value), (Value.bool y.bare)] :: F) := H373_
       have hz_R_R368_ := Sub.trans' hs361_ hs369_
       have hr374_ : RC R368_ b261_ 0 [(Value.int .i32 (ord32 y.result)), (Value.int .i32 (ord32 y.target)), (Value.slice (some ⟨b251_, 0, none⟩) y.key.size cp252_), (Value.iface 215 (Value.pointer (some ⟨b349_, 0, none⟩))), (Value.slice a243_ m244_ c245_)] := (cl_RC ha371_ (Sub.rfl' _)).mono hs372_
       have H375_ : Holds w354_ (ro R368_ :: F) := (Holds.pkF H373_ [0] 2 :)
       exact ⟨R368_, _, _, rfl, hz_R_R368_, ⟨b261_, rfl, rfl, (⟨_, _, _, (RS.mono hr366_ hs369_), hr374_.take 3⟩)⟩, S357_, H375_⟩
      ·have c348_fp : ¬ (y.target = 2) := of_decide_eq_false c348_f
       refine C_seq (fun K376_ hK376_ => ?_)
       refine C_reg ?_
       refine S_list (T_val (v := (Value.bool (decide (y.target = 3)))) (x_bin rfl rfl rfl) ?_)
       refine S_list (T_val (v := (Value.bool (decide (y.target = 3)))) (x_assign rfl) ?_)
       refine wpList_nil ?_
       refine (X_then (hK376_ _ _ ?_))
       clear hK376_
       refine C_cond (b := decide (y.target = 3)) rfl (fun c377_t => ?_) (fun c377_f => ?_)
       ·have c377_tp : y.target = 3 := of_decide_eq_true c377_t
        refine C_reg ?_
        refine S_list (T_val (v := (Value.pointer (some ⟨b261_, 0, none⟩))) (x_move rfl) ?_)
        refine S_list (T_val (v := (Value.pointer (some ⟨b2_, 5, none⟩))) (by kernel_rfl) ?_)
        refine S_list (T_val (v := (Value.string y.value)) (x_load1 rfl Try.underlying9 rfl ((Holds.rd H263_ 3 rfl) 5 (Value.string y.value) rfl)) ?_)
        refine S_list (T_s2b rfl Try.underlying9 Try.underlying122 Try.underlying5 H263_ ?_)
        intro b378_ cp379_ w380_ S382_ hc383_ H381_
        have S384_ := Same.trans S265_ S382_
        have H385_ := Holds.resl H381_ 0 rfl (byteCells_bytesV _ : byteCells y.value = bytesV (ints y.value)) rfl
        have H386_ := Holds.resl H385_ 0 rfl (rfl : bytesV (ints y.value) = bytesV (ints y.value)) ((ints_length _).symm : y.value.size = (List.length (ints y.value)))
        refine S_list (T_val (v := (Value.agg #[(Value.slice (some ⟨b378_, 0, none⟩) y.value.size cp379_)])) (by kernel_rfl) ?_)
        refine S_list (T_box (v := (Value.agg #[(Value.slice (some ⟨b378_, 0, none⟩) y.value.size cp379_)])) rfl H386_ ?_)
        intro b387_ w388_ S390_ H389_
        have S391_ := Same.trans S384_ S390_
        refine S_list (T_val (v := (Value.iface 218 (Value.pointer (some ⟨b387_, 0, none⟩)))) (by kernel_rfl) ?_)
        refine S_list (T_val (v := (Value.pointer (some ⟨b261_, 0, none⟩))) (by kernel_rfl) ?_)
        refine S_list (T_val (v := (Value.pointer (some ⟨b261_, 3, none⟩))) (by kernel_rfl) ?_)
        refine S_list0 (T_store1 (v := (Value.iface 218 (Value.pointer (some ⟨b387_, 0, none⟩)))) rfl rfl z20 rfl H389_ 2 rfl (Nat.le_of_ble_eq_true (by rfl)) ?_)
        intro w392_ S394_ H393_
        have S395_ := Same.trans S391_ S394_
        refine wpList_nil ?_
        refine (X_blkN (X_then (hK287_ _ _ ?_)))
        clear hK287_
        refine C_seq (fun K396_ hK396_ => ?_)
        refine C_reg ?_
        refine S_list (T_val (v := (Value.pointer (some ⟨b261_, 0, none⟩))) (x_move rfl) ?_)
        refine S_list (T_val (v := (Value.pointer (some ⟨b261_, 0, none⟩))) (x_assign rfl) ?_)
        refine wpList_nil ?_
        refine (X_then (hK396_ _ _ ?_))
        clear hK396_
        refine C_ret ?_
        refine R_any (v := (Value.pointer (some ⟨b261_, 0, none⟩))) (run_results1 rfl rfl) ?_
        have H397_ := ((Holds.bring (Holds.bring H393_ 3 rfl) 4 rfl) :)
        replace H397_ : Holds w392_ (ro R :: sl 5 1 (Value.slice (some ⟨b251_, 0, none⟩) y.key.size cp252_) (List.length (ints y.key)) (bytesV (ints y.key)) :: cl b387_ 220 [(Value.slice (some ⟨b378_, 0, none⟩) y.value.size cp379_)] :: sl 5 1 (Value.slice (some ⟨b378_, 0, none⟩) y.value.size cp379_) (List.length (ints y.value)) (bytesV (ints y.value)) :: cl b261_ 201 [(Value.int .i32 (ord32 y.result)), (Value.int .i32 (ord32 y.target)), (Value.slice (some ⟨b251_, 0, none⟩) y.key.size cp252_), (Value.iface 218 (Value.pointer (some ⟨b387_, 0, none⟩))), (Value.slice a243_ m244_ c245_)] :: cl b2_ 98 [(Value.int .i64 y.target), (Value.int .i64 y.result), (Value.string y.key), (Value.string y.end_), (Value.int .i64 y.n), (Value.string y.value), (Value.bool y.bare)] :: F) := H397_
        obtain ⟨R398_, hs399_, ⟨R400_, ha401_, hs402_⟩, H403_⟩ := Holds.gift H397_
        have hr404_ : RS R398_ 1 (Value.slice (some ⟨b251_, 0, none⟩) y.key.size cp252_) (List.length (ints y.key)) (bytesV (ints y.key)) := (sl_RS ha401_ (Sub.rfl' _)).mono hs402_
        have H405_ := ((Holds.bring (Holds.bring H403_ 3 rfl) 1 rfl) :)
        obtain ⟨R406_, hs407_, ⟨R408_, ha409_, hs410_⟩, H411_⟩ := Holds.gift H405_
        replace H411_ : Holds w392_ (ro R406_ :: cl b387_ 220 [(Value.slice (some ⟨b378_, 0, none⟩) y.value.size cp379_)] :: sl 5 1 (Value.slice (some ⟨b378_, 0, none⟩) y.value.size cp379_) (List.length (ints y.value)) (bytesV (ints y.value)) :: cl b2_ 98 [(Value.int .i64 y.target), (Value.int .i64 y.result), (Value.string y.key), (Value.string y.end_), (Value.int .i64 y.n), (Value.string y.value), (Value.bool y.bare)] :: F) := H411_
        have hz_R_R406_ := Sub.trans' hs399_ hs407_
        have hr412_ : RC R406_ b261_ 0 [(Value.int .i32 (ord32 y.result)), (Value.int .i32 (ord32 y.target)), (Value.slice (some ⟨b251_, 0, none⟩) y.key.size cp252_), (Value.iface 218 (Value.pointer (some ⟨b387_, 0, none⟩))), (Value.slice a243_ m244_ c245_)] := (cl_RC ha409_ (Sub.rfl' _)).mono hs410_
        have H413_ : Holds w392_ (ro R406_ :: F) := (Holds.pkF H411_ [0] 3 :)
        exact ⟨R406_, _, _, rfl, hz_R_R406_, ⟨b261_, rfl, rfl, (⟨_, _, _, (RS.mono hr404_ hs407_), hr412_.take 3⟩)⟩, S395_, H413_⟩
       ·have c377_fp : ¬ (y.target = 3) := of_decide_eq_false c377_f
        refine C_seq (fun K414_ hK414_ => ?_)
        refine C_reg ?_
        refine S_list (T_val (v := (Value.bool (decide (y.target = 4)))) (x_bin rfl rfl rfl) ?_)
        refine S_list (T_val (v := (Value.bool (decide (y.target = 4)))) (x_assign rfl) ?_)
        refine wpList_nil ?_
        refine (X_then (hK414_ _ _ ?_))
        clear hK414_
        refine C_cond (b := decide (y.target = 4)) rfl (fun c415_t => ?_) (fun c415_f => ?_)
        ·have c415_tp : y.target = 4 := of_decide_eq_true c415_t
         refine C_reg ?_
         refine S_list (T_val (v := (Value.pointer (some ⟨b261_, 0, none⟩))) (x_move rfl) ?_)
         refine S_list (T_val (v := (Value.pointer (some ⟨b2_, 4, none⟩))) (by kernel_rfl) ?_)
         refine S_list (T_val (v := (Value.int .i64 y.n)) (x_load1 rfl Try.underlying2 rfl ((Holds.rd H263_ 3 rfl) 4 (Value.int .i64 y.n) rfl)) ?_)
         refine S_list (T_val (v := (Value.agg #[(Value.int .i64 y.n)])) (by kernel_rfl) ?_)
         refine S_list (T_box (v := (Value.agg #[(Value.int .i64 y.n)])) rfl H263_ ?_)
         intro b416_ w417_ S419_ H418_
         have S420_ := Same.trans S265_ S419_
         refine S_list (T_val (v := (Value.iface 221 (Value.pointer (some ⟨b416_, 0, none⟩)))) (by kernel_rfl) ?_)
         refine S_list (T_val (v := (Value.pointer (some ⟨b261_, 0, none⟩))) (by kernel_rfl) ?_)
         refine S_list (T_val (v := (Value.pointer (some ⟨b261_, 3, none⟩))) (by kernel_rfl) ?_)
         refine S_list0 (T_store1 (v := (Value.iface 221 (Value.pointer (some ⟨b416_, 0, none⟩)))) rfl rfl z20 rfl H418_ 1 rfl (Nat.le_of_ble_eq_true (by rfl)) ?_)
         intro w421_ S423_ H422_
         have S424_ := Same.trans S420_ S423_
         refine wpList_nil ?_
         refine (X_blkN (X_then (hK287_ _ _ ?_)))
         clear hK287_
         refine C_seq (fun K425_ hK425_ => ?_)
         refine C_reg ?_
         refine S_list (T_val (v := (Value.pointer (some ⟨b261_, 0, none⟩))) (x_move rfl) ?_)
         refine S_list (T_val (v := (Value.pointer (some ⟨b261_, 0, none⟩))) (x_assign rfl) ?_)
         refine wpList_nil ?_
         refine (X_then (hK425_ _ _ ?_))
         clear hK425_
         refine C_ret ?_
         refine R_any (v := (Value.pointer (some ⟨b261_, 0, none⟩))) (run_results1 rfl rfl) ?_
         have H426_ := ((Holds.bring (Holds.bring H422_ 2 rfl) 3 rfl) :)
         replace H426_ : Holds w421_ (ro R :: sl 5 1 (Value.slice (some ⟨b251_, 0, none⟩) y.key.size cp252_) (List.length (ints y.key)) (bytesV (ints y.key)) :: cl b416_ 223 [(Value.int .i64 y.n)] :: cl b261_ 201 [(Value.int .i32 (ord32 y.result)), (Value.int .i32 (ord32 y.target)), (Value.slice (some ⟨b251_, 0, none⟩) y.key.size cp252_), (Value.iface 221 (Value.pointer (some ⟨b416_, 0, none⟩))), (Value.slice a243_ m244_ c245_)] :: cl b2_ 98 [(Value.int .i64 y.target), (Value.int .i64 y.result), (Value.string y.key), (Value.string y.end_), (Value.int .i64 y.n), (Value.string y.value), (Value.bool y.bare)] :: F) := H426_
         obtain ⟨R427_, hs428_, ⟨R429_, ha430_, hs431_⟩, H432_⟩ := Holds.gift H426_
         have hr433_ : RS R427_ 1 (Value.slice (some ⟨b251_, 0, none⟩) y.key.size cp252_) (List.length (ints y.key)) (bytesV (ints y.key)) := (sl_RS ha430_ (Sub.rfl' _)).mono hs431_
         have H434_ := ((Holds.bring (Holds.bring H432_ 2 rfl) 1 rfl) :)
         obtain ⟨R435_, hs436_, ⟨R437_, ha438_, hs439_⟩, H440_⟩ := Holds.gift H434_
         replace H440_ : Holds w421_ (ro R435_ :: cl b416_ 223 [(Value.int .i64 y.n)] :: cl b2_ 98 [(Value.int .i64 y.target), (Value.int .i64 y.result), (Value.string y.key), (Value.string y.end_), (Value.int .i64 y.n), (Value.string y.value), (Value.bool y.bare)] :: F) := H440_
         have hz_R_R435_ := Sub.trans' hs428_ hs436_
         have hr441_ : RC R435_ b261_ 0 [(Value.int .i32 (ord32 y.result)), (Value.int .i32 (ord32 y.target)), (Value.slice (some ⟨b251_, 0, none⟩) y.key.size cp252_), (Value.iface 221 (Value.pointer (some ⟨b416_, 0, none⟩))), (Value.slice a243_ m244_ c245_)] := (cl_RC ha438_ (Sub.rfl' _)).mono hs439_
         have H442_ : Holds w421_ (ro R435_ :: F) := (Holds.pkF H440_ [0] 2 :)
         exact ⟨R435_, _, _, rfl, hz_R_R435_, ⟨b261_, rfl, rfl, (⟨_, _, _, (RS.mono hr433_ hs436_), hr441_.take 3⟩)⟩, S424_, H442_⟩
        ·have c415_fp : ¬ (y.target = 4) := of_decide_eq_false c415_f
         refine C_skip (X_blkN (X_then (hK287_ _ _ ?_)))
         clear hK287_
         refine C_seq (fun K443_ hK443_ => ?_)
         refine C_reg ?_
         refine S_list (T_val (v := (Value.pointer (some ⟨b261_, 0, none⟩))) (x_move rfl) ?_)
         refine S_list (T_val (v := (Value.pointer (some ⟨b261_, 0, none⟩))) (x_assign rfl) ?_)
         refine wpList_nil ?_
         refine (X_then (hK443_ _ _ ?_))
         clear hK443_
         refine C_ret ?_
         refine R_any (v := (Value.pointer (some ⟨b261_, 0, none⟩))) (run_results1 rfl rfl) ?_
         have H444_ := ((Holds.bring (Holds.bring H263_ 1 rfl) 2 rfl) :)
         obtain ⟨R445_, hs446_, ⟨R447_, ha448_, hs449_⟩, H450_⟩ := Holds.gift H444_
         have hr451_ : RS R445_ 1 (Value.slice (some ⟨b251_, 0, none⟩) y.key.size cp252_) (List.length (ints y.key)) (bytesV (ints y.key)) := (sl_RS ha448_ (Sub.rfl' _)).mono hs449_
         obtain ⟨R452_, hs453_, ⟨R454_, ha455_, hs456_⟩, H457_⟩ := Holds.gift H450_
         replace H457_ : Holds w262_ (ro R452_ :: cl b2_ 98 [(Value.int .i64 y.target), (Value.int .i64 y.result), (Value.string y.key), (Value.string y.end_), (Value.int .i64 y.n), (Value.string y.value), (Value.bool y.bare)] :: F) := H457_
         have hz_R_R452_ := Sub.trans' hs446_ hs453_
         have hr458_ : RC R452_ b261_ 0 [(Value.int .i32 (ord32 y.result)), (Value.int .i32 (ord32 y.target)), (Value.slice (some ⟨b251_, 0, none⟩) y.key.size cp252_), (Value.nilIface), (Value.slice a243_ m244_ c245_)] := (cl_RC ha455_ (Sub.rfl' _)).mono hs456_
         have H459_ : Holds w262_ (ro R452_ :: F) := (Holds.pkF H457_ [0] 1 :)
         exact ⟨R452_, _, _, rfl, hz_R_R452_, ⟨b261_, rfl, rfl, (⟨_, _, _, (RS.mono hr451_ hs453_), hr458_.take 3⟩)⟩, S265_, H459_⟩
  refine AllR.cons ?_ AllR.nil
  refine A_op (ls' := #[true, true, true, true, true, false, true, true, true, true, true, false, false, false, false]) rfl (by kernel_rfl) (T_s2b rfl Try.underlying9 Try.underlying122 Try.underlying5 H13_ ?_)
  intro b460_ cp461_ w462_ S464_ hc465_ H463_
  have S466_ := Same.trans S16_ S464_
  have H467_ := Holds.resl H463_ 0 rfl (byteCells_bytesV _ : byteCells y.key = bytesV (ints y.key)) rfl
  have H468_ := Holds.resl H467_ 0 rfl (rfl : bytesV (ints y.key) = bytesV (ints y.key)) ((ints_length _).symm : y.key.size = (List.length (ints y.key)))
  refine ⟨⟨Holds.rd H468_ 2 rfl, (Holds.ro_at H468_ 1 rfl)⟩, ?_⟩
  refine A_ready (i := 5) (rs := []) (by kernel_rfl) ?_
  refine AllR.cons ?_ AllR.nil
  have H470_ := ((Holds.bring H468_ 1 rfl) :)
  refine A_op (ls' := #[true, true, true, true, true, true, true, true, true, true, true, false, false, false, false]) rfl (by kernel_rfl) (T_call (al := [(Value.int .i64 y.target)]) (pre := []) rfl rfl cb68 (ckOrder R y.target) H470_ ?_)
  rintro v469_ p474_ w471_ ⟨rfl, rfl⟩ S473_ H472_
  have S475_ := Same.trans S466_ S473_
  refine ⟨⟨Holds.rd H472_ 2 rfl, (Holds.ro_at H472_ 0 rfl)⟩, ?_⟩
  refine A_ready (i := 11) (rs := []) (by kernel_rfl) ?_
  refine AllR.cons ?_ AllR.nil
  refine A_op (ls' := #[true, true, true, true, true, true, true, true, true, true, true, true, false, false, false]) rfl (by kernel_rfl) (T_call (al := [(Value.string y.end_)]) (pre := []) rfl rfl cb67 (ckBytes R y.end_) H472_ ?_)
  rintro v476_ p483_ w480_ ⟨a477_, m478_, c479_, rfl, rfl⟩ S482_ H481_
  replace H481_ : Holds w480_ (ro R :: sl 5 1 (Value.slice (some ⟨b460_, 0, none⟩) y.key.size cp461_) (List.length (ints y.key)) (bytesV (ints y.key)) :: cl b2_ 98 [(Value.int .i64 y.target), (Value.int .i64 y.result), (Value.string y.key), (Value.string y.end_), (Value.int .i64 y.n), (Value.string y.value), (Value.bool y.bare)] :: F) := H481_
  have S484_ := Same.trans S475_ S482_
  refine ⟨⟨Holds.rd H481_ 2 rfl, (Holds.ro_at H481_ 0 rfl)⟩, ?_⟩
  have hq485_ := And.intro (Holds.rd H481_ 2 rfl) ((Holds.ro_at H481_ 0 rfl))
  refine A_tk 12 (v := (Value.agg #[(Value.int .i32 (ord32 y.result)), (Value.int .i32 (ord32 y.target)), (Value.slice (some ⟨b460_, 0, none⟩) y.key.size cp461_), (Value.nilIface), (Value.slice a477_ m478_ c479_)])) rfl (by kernel_rfl) (fun w hS => by kernel_rfl) hq485_ ?_
  refine A_ready (i := 13) (rs := []) (by kernel_rfl) ?_
  refine AllR.cons ?_ AllR.nil
  refine A_op (ls' := #[true, true, true, true, true, true, true, true, true, true, true, true, true, true, false]) rfl (by kernel_rfl) (T_box (v := (Value.agg #[(Value.int .i32 (ord32 y.result)), (Value.int .i32 (ord32 y.target)), (Value.slice (some ⟨b460_, 0, none⟩) y.key.size cp461_), (Value.nilIface), (Value.slice a477_ m478_ c479_)])) rfl H481_ ?_)
  intro b486_ w487_ S489_ H488_
  have S490_ := Same.trans S484_ S489_
  refine ⟨⟨Holds.rd H488_ 3 rfl, (Holds.ro_at H488_ 1 rfl)⟩, ?_⟩
  have hq491_ := And.intro (Holds.rd H488_ 3 rfl) ((Holds.ro_at H488_ 1 rfl))
  refine A_tk 14 (v := (Value.pointer (some ⟨b486_, 0, none⟩))) rfl (by kernel_rfl) (fun w hS => x_assign rfl) hq491_ ?_
  refine A_done (by kernel_rfl) ?_
  refine (X_then (hK7_ _ _ ?_))
  clear hK7_
  refine C_seq (fun K492_ hK492_ => ?_)
  refine C_seq (fun K493_ hK493_ => ?_)
  refine C_reg ?_
  refine S_list (T_val (v := (Value.pointer (some ⟨b2_, 6, none⟩))) (by kernel_rfl) ?_)
  refine S_list (T_val (v := (Value.bool y.bare)) (x_load1 rfl Try.underlying4 rfl ((Holds.rd H488_ 3 rfl) 6 (Value.bool y.bare) rfl)) ?_)
  refine wpList_nil ?_
  refine (X_then (hK493_ _ _ ?_))
  clear hK493_
  refine C_cond (b := y.bare) rfl (fun c494_t => ?_) (fun c494_f => ?_)
  ·skip
   refine C_seq (fun K495_ hK495_ => ?_)
   refine C_reg ?_
   refine S_list (T_val (v := (Value.pointer (some ⟨b486_, 0, none⟩))) (x_move rfl) ?_)
   refine S_list (T_val (v := (Value.pointer (some ⟨b486_, 0, none⟩))) (x_assign rfl) ?_)
   refine wpList_nil ?_
   refine (X_then (hK495_ _ _ ?_))
   clear hK495_
   refine C_ret (X_thenR ?_)
   refine R_any (v := (Value.pointer (some ⟨b486_, 0, none⟩))) (run_results1 rfl rfl) ?_
   have H496_ := ((Holds.bring (Holds.bring H488_ 2 rfl) 2 rfl) :)
   obtain ⟨R497_, hs498_, ⟨R499_, ha500_, hs501_⟩, H502_⟩ := Holds.gift H496_
   replace H502_ : Holds w487_ (ro R497_ :: cl b486_ 201 [(Value.int .i32 (ord32 y.result)), (Value.int .i32 (ord32 y.target)), (Value.slice (some ⟨b460_, 0, none⟩) y.key.size cp461_), (Value.nilIface), (Value.slice a477_ m478_ c479_)] :: cl b2_ 98 [(Value.int .i64 y.target), (Value.int .i64 y.result), (Value.string y.key), (Value.string y.end_), (Value.int .i64 y.n), (Value.string y.value), (Value.bool y.bare)] :: F) := H502_
   have hr503_ : RS R497_ 1 (Value.slice (some ⟨b460_, 0, none⟩) y.key.size cp461_) (List.length (ints y.key)) (bytesV (ints y.key)) := (sl_RS ha500_ (Sub.rfl' _)).mono hs501_
   obtain ⟨R504_, hs505_, ⟨R506_, ha507_, hs508_⟩, H509_⟩ := Holds.gift H502_
   have hz_R_R504_ := Sub.trans' hs498_ hs505_
   have hr510_ : RC R504_ b486_ 0 [(Value.int .i32 (ord32 y.result)), (Value.int .i32 (ord32 y.target)), (Value.slice (some ⟨b460_, 0, none⟩) y.key.size cp461_), (Value.nilIface), (Value.slice a477_ m478_ c479_)] := (cl_RC ha507_ (Sub.rfl' _)).mono hs508_
   have H511_ : Holds w487_ (ro R504_ :: F) := (Holds.pkF H509_ [0] 1 :)
   exact ⟨R504_, _, _, rfl, hz_R_R504_, ⟨b486_, rfl, rfl, (⟨_, _, _, (RS.mono hr503_ hs505_), hr510_.take 3⟩)⟩, S490_, H511_⟩
  ·skip
   refine C_skip (X_then (hK492_ _ _ ?_))
   clear hK492_
   refine C_seq (fun K512_ hK512_ => ?_)
   refine C_seq (fun K513_ hK513_ => ?_)
   refine C_reg ?_
   refine S_list (T_val (v := (Value.pointer (some ⟨b2_, 0, none⟩))) (by kernel_rfl) ?_)
   refine S_list (T_val (v := (Value.int .i64 y.target)) (x_load1 rfl Try.underlying3 rfl ((Holds.rd H488_ 3 rfl) 0 (Value.int .i64 y.target) rfl)) ?_)
   refine wpList_nil ?_
   refine (X_then (hK513_ _ _ ?_))
   clear hK513_
   refine C_block ?_
   refine C_seq (fun K514_ hK514_ => ?_)
   refine C_reg ?_
   refine S_list (T_val (v := (Value.bool (decide (y.target = 0)))) (x_bin rfl rfl rfl) ?_)
   refine S_list (T_val (v := (Value.bool (decide (y.target = 0)))) (x_assign rfl) ?_)
   refine wpList_nil ?_
   refine (X_then (hK514_ _ _ ?_))
   clear hK514_
   refine C_cond (b := decide (y.target = 0)) rfl (fun c515_t => ?_) (fun c515_f => ?_)
   ·have c515_tp : y.target = 0 := of_decide_eq_true c515_t
    refine C_reg ?_
    refine S_list (T_val (v := (Value.pointer (some ⟨b486_, 0, none⟩))) (x_move rfl) ?_)
    refine S_list (T_val (v := (Value.pointer (some ⟨b2_, 4, none⟩))) (by kernel_rfl) ?_)
    refine S_list (T_val (v := (Value.int .i64 y.n)) (x_load1 rfl Try.underlying2 rfl ((Holds.rd H488_ 3 rfl) 4 (Value.int .i64 y.n) rfl)) ?_)
    refine S_list (T_val (v := (Value.agg #[(Value.int .i64 y.n)])) (by kernel_rfl) ?_)
    refine S_list (T_box (v := (Value.agg #[(Value.int .i64 y.n)])) rfl H488_ ?_)
    intro b516_ w517_ S519_ H518_
    have S520_ := Same.trans S490_ S519_
    refine S_list (T_val (v := (Value.iface 209 (Value.pointer (some ⟨b516_, 0, none⟩)))) (by kernel_rfl) ?_)
    refine S_list (T_val (v := (Value.pointer (some ⟨b486_, 0, none⟩))) (by kernel_rfl) ?_)
    refine S_list (T_val (v := (Value.pointer (some ⟨b486_, 3, none⟩))) (by kernel_rfl) ?_)
    refine S_list0 (T_store1 (v := (Value.iface 209 (Value.pointer (some ⟨b516_, 0, none⟩)))) rfl rfl z20 rfl H518_ 1 rfl (Nat.le_of_ble_eq_true (by rfl)) ?_)
    intro w521_ S523_ H522_
    have S524_ := Same.trans S520_ S523_
    refine wpList_nil ?_
    refine (X_blkN (X_then (hK512_ _ _ ?_)))
    clear hK512_
    refine C_seq (fun K525_ hK525_ => ?_)
    refine C_reg ?_
    refine S_list (T_val (v := (Value.pointer (some ⟨b486_, 0, none⟩))) (x_move rfl) ?_)
    refine S_list (T_val (v := (Value.pointer (some ⟨b486_, 0, none⟩))) (x_assign rfl) ?_)
    refine wpList_nil ?_
    refine (X_then (hK525_ _ _ ?_))
    clear hK525_
    refine C_ret ?_
    refine R_any (v := (Value.pointer (some ⟨b486_, 0, none⟩))) (run_results1 rfl rfl) ?_
    have H526_ := ((Holds.bring (Holds.bring H522_ 3 rfl) 3 rfl) :)
    replace H526_ : Holds w521_ (ro R :: sl 5 1 (Value.slice (some ⟨b460_, 0, none⟩) y.key.size cp461_) (List.length (ints y.key)) (bytesV (ints y.key)) :: cl b516_ 211 [(Value.int .i64 y.n)] :: cl b486_ 201 [(Value.int .i32 (ord32 y.result)), (Value.int .i32 (ord32 y.target)), (Value.slice (some ⟨b460_, 0, none⟩) y.key.size cp461_), (Value.iface 209 (Value.pointer (some ⟨b516_, 0, none⟩))), (Value.slice a477_ m478_ c479_)] :: cl b2_ 98 [(Value.int .i64 y.target), (Value.int .i64 y.result), (Value.string y.key), (Value.string y.end_), (Value.int .i64 y.n), (Value.string y.value), (Value.bool y.bare)] :: F) := H526_
    obtain ⟨R527_, hs528_, ⟨R529_, ha530_, hs531_⟩, H532_⟩ := Holds.gift H526_
    have hr533_ : RS R527_ 1 (Value.slice (some ⟨b460_, 0, none⟩) y.key.size cp461_) (List.length (ints y.key)) (bytesV (ints y.key)) := (sl_RS ha530_ (Sub.rfl' _)).mono hs531_
    have H534_ := ((Holds.bring (Holds.bring H532_ 2 rfl) 1 rfl) :)
    obtain ⟨R535_, hs536_, ⟨R537_, ha538_, hs539_⟩, H540_⟩ := Holds.gift H534_
    replace H540_ : Holds w521_ (ro R535_ :: cl b516_ 211 [(Value.int .i64 y.n)] :: cl b2_ 98 [(Value.int .i64 y.target), (Value.int .i64 y.result), (Value.string y.key), (Value.string y.end_), (Value.int .i64 y.n), (Value.string y.value), (Value.bool y.bare)] :: F) := H540_
    have hz_R_R535_ := Sub.trans' hs528_ hs536_
    have hr541_ : RC R535_ b486_ 0 [(Value.int .i32 (ord32 y.result)), (Value.int .i32 (ord32 y.target)), (Value.slice (some ⟨b460_, 0, none⟩) y.key.size cp461_), (Value.iface 209 (Value.pointer (some ⟨b516_, 0, none⟩))), (Value.slice a477_ m478_ c479_)] := (cl_RC ha538_ (Sub.rfl' _)).mono hs539_
    have H542_ : Holds w521_ (ro R535_ :: F) := (Holds.pkF H540_ [0] 2 :)
    exact ⟨R535_, _, _, rfl, hz_R_R535_, ⟨b486_, rfl, rfl, (⟨_, _, _, (RS.mono hr533_ hs536_), hr541_.take 3⟩)⟩, S524_, H542_⟩
   ·have c515_fp : ¬ (y.target = 0) := of_decide_eq_false c515_f
    refine C_seq (fun K543_ hK543_ => ?_)
    refine C_reg ?_
    refine S_list (T_val (v := (Value.bool (decide (y.target = 1)))) (x_bin rfl rfl rfl) ?_)
    refine S_list (T_val (v := (Value.bool (decide (y.target = 1)))) (x_assign rfl) ?_)
    refine wpList_nil ?_
    refine (X_then (hK543_ _ _ ?_))
    clear hK543_
    refine C_cond (b := decide (y.target = 1)) rfl (fun c544_t => ?_) (fun c544_f => ?_)
    ·have c544_tp : y.target = 1 := of_decide_eq_true c544_t
     refine C_reg ?_
     refine S_list (T_val (v := (Value.pointer (some ⟨b486_, 0, none⟩))) (x_move rfl) ?_)
     refine S_list (T_val (v := (Value.pointer (some ⟨b2_, 4, none⟩))) (by kernel_rfl) ?_)
     refine S_list (T_val (v := (Value.int .i64 y.n)) (x_load1 rfl Try.underlying2 rfl ((Holds.rd H488_ 3 rfl) 4 (Value.int .i64 y.n) rfl)) ?_)
     refine S_list (T_val (v := (Value.agg #[(Value.int .i64 y.n)])) (by kernel_rfl) ?_)
     refine S_list (T_box (v := (Value.agg #[(Value.int .i64 y.n)])) rfl H488_ ?_)
     intro b545_ w546_ S548_ H547_
     have S549_ := Same.trans S490_ S548_
     refine S_list (T_val (v := (Value.iface 212 (Value.pointer (some ⟨b545_, 0, none⟩)))) (by kernel_rfl) ?_)
     refine S_list (T_val (v := (Value.pointer (some ⟨b486_, 0, none⟩))) (by kernel_rfl) ?_)
     refine S_list (T_val (v := (Value.pointer (some ⟨b486_, 3, none⟩))) (by kernel_rfl) ?_)
     refine S_list0 (T_store1 (v := (Value.iface 212 (Value.pointer (some ⟨b545_, 0, none⟩)))) rfl rfl z20 rfl H547_ 1 rfl (Nat.le_of_ble_eq_true (by rfl)) ?_)
     intro w550_ S552_ H551_
     have S553_ := Same.trans S549_ S552_
     refine wpList_nil ?_
     refine (X_blkN (X_then (hK512_ _ _ ?_)))
     clear hK512_
     refine C_seq (fun K554_ hK554_ => ?_)
     refine C_reg ?_
     refine S_list (T_val (v := (Value.pointer (some ⟨b486_, 0, none⟩))) (x_move rfl) ?_)
     refine S_list (T_val (v := (Value.pointer (some ⟨b486_, 0, none⟩))) (x_assign rfl) ?_)
     refine wpList_nil ?_
     refine (X_then (hK554_ _ _ ?_))
     clear hK554_
     refine C_ret ?_
     refine R_any (v := (Value.pointer (some ⟨b486_, 0, none⟩))) (run_results1 rfl rfl) ?_
     have H555_ := ((Holds.bring (Holds.bring H551_ 3 rfl) 3 rfl) :)
     replace H555_ : Holds w550_ (ro R :: sl 5 1 (Value.slice (some ⟨b460_, 0, none⟩) y.key.size cp461_) (List.length (ints y.key)) (bytesV (ints y.key)) :: cl b545_ 214 [(Value.int .i64 y.n)] :: cl b486_ 201 [(Value.int .i32 (ord32 y.result)), (Value.int .i32 (ord32 y.target)), (Value.slice (some ⟨b460_, 0, none⟩) y.key.size cp461_), (Value.iface 212 (Value.pointer (some ⟨b545_, 0, none⟩))), (Value.slice a477_ m478_ c479_)] :: cl b2_ 98 [(Value.int .i64 y.target), (Value.int .i64 y.result), (Value.string y.key), (Value.string y.end_), (Value.int .i64 y.n), (Value.string y.value), (Value.bool y.bare)] :: F) := H555_
     obtain ⟨R556_, hs557_, ⟨R558_, ha559_, hs560_⟩, H561_⟩ := Holds.gift H555_
     have hr562_ : RS R556_ 1 (Value.slice (some ⟨b460_, 0, none⟩) y.key.size cp461_) (List.length (ints y.key)) (bytesV (ints y.key)) := (sl_RS ha559_ (Sub.rfl' _)).mono hs560_
     have H563_ := ((Holds.bring (Holds.bring H561_ 2 rfl) 1 rfl) :)
     obtain ⟨R564_, hs565_, ⟨R566_, ha567_, hs568_⟩, H569_⟩ := Holds.gift H563_
     replace H569_ : Holds w550_ (ro R564_ :: cl b545_ 214 [(Value.int .i64 y.n)] :: cl b2_ 98 [(Value.int .i64 y.target), (Value.int .i64 y.result), (Value.string y.key), (Value.string y.end_), (Value.int .i64 y.n), (Value.string y.value), (Value.bool y.bare)] :: F) := H569_
     have hz_R_R564_ := Sub.trans' hs557_ hs565_
     have hr570_ : RC R564_ b486_ 0 [(Value.int .i32 (ord32 y.result)), (Value.int .i32 (ord32 y.target)), (Value.slice (some ⟨b460_, 0, none⟩) y.key.size cp461_), (Value.iface 212 (Value.pointer (some ⟨b545_, 0, none⟩))), (Value.slice a477_ m478_ c479_)] := (cl_RC ha567_ (Sub.rfl' _)).mono hs568_
     have H571_ : Holds w550_ (ro R564_ :: F) := (Holds.pkF H569_ [0] 2 :)
     exact ⟨R564_, _, _, rfl, hz_R_R564_, ⟨b486_, rfl, rfl, (⟨_, _, _, (RS.mono hr562_ hs565_), hr570_.take 3⟩)⟩, S553_, H571_⟩
    ·have c544_fp : ¬ (y.target = 1) := of_decide_eq_false c544_f
     refine C_seq (fun K572_ hK572_ => ?_)
     refine C_reg ?_
     refine S_list (T_val (v := (Value.bool (decide (y.target = 2)))) (x_bin rfl rfl rfl) ?_)
     refine S_list (T_val (v := (Value.bool (decide (y.target = 2)))) (x_assign rfl) ?_)
     refine wpList_nil ?_
     refine (X_then (hK572_ _ _ ?_))
     clear hK572_
     refine C_cond (b := decide (y.target = 2)) rfl (fun c573_t => ?_) (fun c573_f => ?_)
     ·have c573_tp : y.target = 2 := of_decide_eq_true c573_t
      refine C_reg ?_
      refine S_list (T_val (v := (Value.pointer (some ⟨b486_, 0, none⟩))) (x_move rfl) ?_)
      refine S_list (T_val (v := (Value.pointer (some ⟨b2_, 4, none⟩))) (by kernel_rfl) ?_)
      refine S_list (T_val (v := (Value.int .i64 y.n)) (x_load1 rfl Try.underlying2 rfl ((Holds.rd H488_ 3 rfl) 4 (Value.int .i64 y.n) rfl)) ?_)
      refine S_list (T_val (v := (Value.agg #[(Value.int .i64 y.n)])) (by kernel_rfl) ?_)
      refine S_list (T_box (v := (Value.agg #[(Value.int .i64 y.n)])) rfl H488_ ?_)
      intro b574_ w575_ S577_ H576_
      have S578_ := Same.trans S490_ S577_
      refine S_list (T_val (v := (Value.iface 215 (Value.pointer (some ⟨b574_, 0, none⟩)))) (by kernel_rfl) ?_)
      refine S_list (T_val (v := (Value.pointer (some ⟨b486_, 0, none⟩))) (by kernel_rfl) ?_)
      refine S_list (T_val (v := (Value.pointer (some ⟨b486_, 3, none⟩))) (by kernel_rfl) ?_)
      refine S_list0 (T_store1 (v := (Value.iface 215 (Value.pointer (some ⟨b574_, 0, none⟩)))) rfl rfl z20 rfl H576_ 1 rfl (Nat.le_of_ble_eq_true (by rfl)) ?_)
      intro w579_ S581_ H580_
      have S582_ := Same.trans S578_ S581_
      refine wpList_nil ?_
      refine (X_blkN (X_then (hK512_ _ _ ?_)))
      clear hK512_
      refine C_seq (fun K583_ hK583_ => ?_)
      refine C_reg ?_
      refine S_list (T_val (v := (Value.pointer (some ⟨b486_, 0, none⟩))) (x_move rfl) ?_)
      refine S_list (T_val (v := (Value.pointer (some ⟨b486_, 0, none⟩))) (x_assign rfl) ?_)
      refine wpList_nil ?_
      refine (X_then (hK583_ _ _ ?_))
      clear hK583_
      refine C_ret ?_
      refine R_any (v := (Value.pointer (some ⟨b486_, 0, none⟩))) (run_results1 rfl rfl) ?_
      have H584_ := ((Holds.bring (Holds.bring H580_ 3 rfl) 3 rfl) :)
      replace H584_ : Holds w579_ (ro R :: sl 5 1 (Value.slice (some ⟨b460_, 0, none⟩) y.key.size cp461_) (List.length (ints y.key)) (bytesV (ints y.key)) :: cl b574_ 217 [(Value.int .i64 y.n)] :: cl b486_ 201 [(Value.int .i32 (ord32 y.result)), (Value.int .i32 (ord32 y.target)), (Value.slice (some ⟨b460_, 0, none⟩) y.key.size cp461_), (Value.iface 215 (Value.pointer (some ⟨b574_, 0, none⟩))), (Value.slice a477_ m478_ c479_)] :: cl b2_ 98 [(Value.int .i64 y.target), (Value.int .i64 y.result), (Value.string y.key), (Value.string y.end_), (Value.int .i64 y.n), (Value.string y.value), (Value.bool y.bare)] :: F) := H584_
      obtain ⟨R585_, hs586_, ⟨R587_, ha588_, hs589_⟩, H590_⟩ := Holds.gift H584_
      have hr591_ : RS R585_ 1 (Value.slice (some ⟨b460_, 0, none⟩) y.key.size cp461_) (List.length (ints y.key)) (bytesV (ints y.key)) := (sl_RS ha588_ (Sub.rfl' _)).mono hs589_
      have H592_ := ((Holds.bring (Holds.bring H590_ 2 rfl) 1 rfl) :)
      obtain ⟨R593_, hs594_, ⟨R595_, ha596_, hs597_⟩, H598_⟩ := Holds.gift H592_
      replace H598_ : Holds w579_ (ro R593_ :: cl b574_ 217 [(Value.int .i64 y.n)] :: cl b2_ 98 [(Value.int .i64 y.target), (Value.int .i64 y.result), (Value.string y.key), (Value.string y.end_), (Value.int .i64 y.n), (Value.string y.value), (Value.bool y.bare)] :: F) := H598_
      have hz_R_R593_ := Sub.trans' hs586_ hs594_
      have hr599_ : RC R593_ b486_ 0 [(Value.int .i32 (ord32 y.result)), (Value.int .i32 (ord32 y.target)), (Value.slice (some ⟨b460_, 0, none⟩) y.key.size cp461_), (Value.iface 215 (Value.pointer (some ⟨b574_, 0, none⟩))), (Value.slice a477_ m478_ c479_)] := (cl_RC ha596_ (Sub.rfl' _)).mono hs597_
      have H600_ : Holds w579_ (ro R593_ :: F) := (Holds.pkF H598_ [0] 2 :)
      exact ⟨R593_, _, _, rfl, hz_R_R593_, ⟨b486_, rfl, rfl, (⟨_, _, _, (RS.mono hr591_ hs594_), hr599_.take 3⟩)⟩, S582_, H600_⟩
     ·have c573_fp : ¬ (y.target = 2) := of_decide_eq_false c573_f
      refine C_seq (fun K601_ hK601_ => ?_)
      refine C_reg ?_
      refine S_list (T_val (v := (Value.bool (decide (y.target = 3)))) (x_bin rfl rfl rfl) ?_)
      refine S_list (T_val (v := (Value.bool (decide (y.target = 3)))) (x_assign rfl) ?_)
      refine wpList_nil ?_
      refine (X_then (hK601_ _ _ ?_))
      clear hK601_
      refine C_cond (b := decide (y.target = 3)) rfl (fun c602_t => ?_) (fun c602_f => ?_)
      ·have c602_tp : y.target = 3 := of_decide_eq_true c602_t
       refine C_reg ?_
       refine S_list (T_val (v := (Value.pointer (some ⟨b486_, 0, none⟩))) (x_move rfl) ?_)
       refine S_list (T_val (v := (Value.pointer (some ⟨b2_, 5, none⟩))) (by kernel_rfl) ?_)
       refine S_list (T_val (v := (Value.string y.value)) (x_load1 rfl Try.underlying9 rfl ((Holds.rd H488_ 3 rfl) 5 (Value.string y.value) rfl)) ?_)
       refine S_list (T_s2b rfl Try.underlying9 Try.underlying122 Try.underlying5 H488_ ?_)
       intro b603_ cp604_ w605_ S607_ hc608_ H606_
       have S609_ := Same.trans S490_ S607_
       have H610_ := Holds.resl H606_ 0 rfl (byteCells_bytesV _ : byteCells y.value = bytesV (ints y.value)) rfl
       have H611_ := Holds.resl H610_ 0 rfl (rfl : bytesV (ints y.value) = bytesV (ints y.value)) ((ints_length _).symm : y.value.size = (List.length (ints y.value)))
       refine S_list (T_val (v := (Value.agg #[(Value.slice (some ⟨b603_, 0, none⟩) y.value.size cp604_)])) (by kernel_rfl) ?_)
       refine S_list (T_box (v := (Value.agg #[(Value.slice (some ⟨b603_, 0, none⟩) y.value.size cp604_)])) rfl H611_ ?_)
       intro b612_ w613_ S615_ H614_
       have S616_ := Same.trans S609_ S615_
       refine S_list (T_val (v := (Value.iface 218 (Value.pointer (some ⟨b612_, 0, none⟩)))) (by kernel_rfl) ?_)
       refine S_list (T_val (v := (Value.pointer (some ⟨b486_, 0, none⟩))) (by kernel_rfl) ?_)
       refine S_list (T_val (v := (Value.pointer (some ⟨b486_, 3, none⟩))) (by kernel_rfl) ?_)
       refine S_list0 (T_store1 (v := (Value.iface 218 (Value.pointer (some ⟨b612_, 0, none⟩)))) rfl rfl z20 rfl H614_ 2 rfl (Nat.le_of_ble_eq_true (by rfl)) ?_)
       intro w617_ S619_ H618_
       have S620_ := Same.trans S616_ S619_
       refine wpList_nil ?_
       refine (X_blkN (X_then (hK512_ _ _ ?_)))
       clear hK512_
       refine C_seq (fun K621_ hK621_ => ?_)
       refine C_reg ?_
       refine S_list (T_val (v := (Value.pointer (some ⟨b486_, 0, none⟩))) (x_move rfl) ?_)
       refine S_list (T_val (v := (Value.pointer (some ⟨b486_, 0, none⟩))) (x_assign rfl) ?_)
       refine wpList_nil ?_
       refine (X_then (hK621_ _ _ ?_))
       clear hK621_
       refine C_ret ?_
       refine R_any (v := (Value.pointer (some ⟨b486_, 0, none⟩))) (run_results1 rfl rfl) ?_
       have H622_ := ((Holds.bring (Holds.bring H618_ 4 rfl) 4 rfl) :)
       replace H622_ : Holds w617_ (ro R :: sl 5 1 (Value.slice (some ⟨b460_, 0, none⟩) y.key.size cp461_) (List.length (ints y.key)) (bytesV (ints y.key)) :: cl b612_ 220 [(Value.slice (some ⟨b603_, 0, none⟩) y.value.size cp604_)] :: sl 5 1 (Value.slice (some ⟨b603_, 0, none⟩) y.value.size cp604_) (List.length (ints y.value)) (bytesV (ints y.value)) :: cl b486_ 201 [(Value.int .i32 (ord32 y.result)), (Value.int .i32 (ord32 y.target)), (Value.slice (some ⟨b460_, 0, none⟩) y.key.size cp461_), (Value.iface 218 (Value.pointer (some ⟨b612_, 0, none⟩))), (Value.slice a477_ m478_ c479_)] :: cl b2_ 98 [(Value.int .i64 y.target), (Value.int .i64 y.result), (Value.string y.key), (Value.string y.end_), (Value.int .i64 y.n), (Value.string y.value), (Value.bool y.bare)] :: F) := H622_
       obtain ⟨R623_, hs624_, ⟨R625_, ha626_, hs627_⟩, H628_⟩ := Holds.gift H622_
       have hr629_ : RS R623_ 1 (Value.slice (some ⟨b460_, 0, none⟩) y.key.size cp461_) (List.length (ints y.key)) (bytesV (ints y.key)) := (sl_RS ha626_ (Sub.rfl' _)).mono hs627_
       have H630_ := ((Holds.bring (Holds.bring H628_ 3 rfl) 1 rfl) :)
       obtain ⟨R631_, hs632_, ⟨R633_, ha634_, hs635_⟩, H636_⟩ := Holds.gift H630_
       replace H636_ : Holds w617_ (ro R631_ :: cl b612_ 220 [(Value.slice (some ⟨b603_, 0, none⟩) y.value.size cp604_)] :: sl 5 1 (Value.slice (some ⟨b603_, 0, none⟩) y.value.size cp604_) (List.length (ints y.value)) (bytesV (ints y.value)) :: cl b2_ 98 [(Value.int .i64 y.target), (Value.int .i64 y.result), (Value.string y.key), (Value.string y.end_), (Value.int .i64 y.n), (Value.string y.value), (Value.bool y.bare)] :: F) := H636_
       have hz_R_R631_ := Sub.trans' hs624_ hs632_
       have hr637_ : RC R631_ b486_ 0 [(Value.int .i32 (ord32 y.result)), (Value.int .i32 (ord32 y.target)), (Value.slice (some ⟨b460_, 0, none⟩) y.key.size cp461_), (Value.iface 218 (Value.pointer (some ⟨b612_, 0, none⟩))), (Value.slice a477_ m478_ c479_)] := (cl_RC ha634_ (Sub.rfl' _)).mono hs635_
       have H638_ : Holds w617_ (ro R631_ :: F) := (Holds.pkF H636_ [0] 3 :)
       exact ⟨R631_, _, _, rfl, hz_R_R631_, ⟨b486_, rfl, rfl, (⟨_, _, _, (RS.mono hr629_ hs632_), hr637_.take 3⟩)⟩, S620_, H638_⟩
      ·have c602_fp : ¬ (y.target = 3) := of_decide_eq_false c602_f
       refine C_seq (fun K639_ hK639_ => ?_)
       refine C_reg ?_
       refine S_list (T_val (v := (Value.bool (decide (y.target = 4)))) (x_bin rfl rfl rfl) ?_)
       refine S_list (T_val (v := (Value.bool (decide (y.target = 4)))) (x_assign rfl) ?_)
       refine wpList_nil ?_
       refine (X_then (hK639_ _ _ ?_))
       clear hK639_
       refine C_cond (b := decide (y.target = 4)) rfl (fun c640_t => ?_) (fun c640_f => ?_)
       ·have c640_tp : y.target = 4 := of_decide_eq_true c640_t
        refine C_reg ?_
        refine S_list (T_val (v := (Value.pointer (some ⟨b486_, 0, none⟩))) (x_move rfl) ?_)
        refine S_list (T_val (v := (Value.pointer (some ⟨b2_, 4, none⟩))) (by kernel_rfl) ?_)
        refine S_list (T_val (v := (Value.int .i64 y.n)) (x_load1 rfl Try.underlying2 rfl ((Holds.rd H488_ 3 rfl) 4 (Value.int .i64 y.n) rfl)) ?_)
        refine S_list (T_val (v := (Value.agg #[(Value.int .i64 y.n)])) (by kernel_rfl) ?_)
        refine S_list (T_box (v := (Value.agg #[(Value.int .i64 y.n)])) rfl H488_ ?_)
        intro b641_ w642_ S644_ H643_
        have S645_ := Same.trans S490_ S644_
        refine S_list (T_val (v := (Value.iface 221 (Value.pointer (some ⟨b641_, 0, none⟩)))) (by kernel_rfl) ?_)
        refine S_list (T_val (v := (Value.pointer (some ⟨b486_, 0, none⟩))) (by kernel_rfl) ?_)
        refine S_list (T_val (v := (Value.pointer (some ⟨b486_, 3, none⟩))) (by kernel_rfl) ?_)
        refine S_list0 (T_store1 (v := (Value.iface 221 (Value.pointer (some ⟨b641_, 0, none⟩)))) rfl rfl z20 rfl H643_ 1 rfl (Nat.le_of_ble_eq_true (by rfl)) ?_)
        intro w646_ S648_ H647_
        have S649_ := Same.trans S645_ S648_
        refine wpList_nil ?_
        refine (X_blkN (X_then (hK512_ _ _ ?_)))
        clear hK512_
        refine C_seq (fun K650_ hK650_ => ?_)
        refine C_reg ?_
        refine S_list (T_val (v := (Value.pointer (some ⟨b486_, 0, none⟩))) (x_move rfl) ?_)
        refine S_list (T_val (v := (Value.pointer (some ⟨b486_, 0, none⟩))) (x_assign rfl) ?_)
        refine wpList_nil ?_
        refine (X_then (hK650_ _ _ ?_))
        clear hK650_
        refine C_ret ?_
        refine R_any (v := (Value.pointer (some ⟨b486_, 0, none⟩))) (run_results1 rfl rfl) ?_
        have H651_ := ((Holds.bring (Holds.bring H647_ 3 rfl) 3 rfl) :)
        replace H651_ : Holds w646_ (ro R :: sl 5 1 (Value.slice (some ⟨b460_, 0, none⟩) y.key.size cp461_) (List.length (ints y.key)) (bytesV (ints y.key)) :: cl b641_ 223 [(Value.int .i64 y.n)] :: cl b486_ 201 [(Value.int .i32 (ord32 y.result)), (Value.int .i32 (ord32 y.target)), (Value.slice (some ⟨b460_, 0, none⟩) y.key.size cp461_), (Value.iface 221 (Value.pointer (some ⟨b641_, 0, none⟩))), (Value.slice a477_ m478_ c479_)] :: cl b2_ 98 [(Value.int .i64 y.target), (Value.int .i64 y.result), (Value.string y.key), (Value.string y.end_), (Value.int .i64 y.n), (Value.string y.value), (Value.bool y.bare)] :: F) := H651_
        obtain ⟨R652_, hs653_, ⟨R654_, ha655_, hs656_⟩, H657_⟩ := Holds.gift H651_
        have hr658_ : RS R652_ 1 (Value.slice (some ⟨b460_, 0, none⟩) y.key.size cp461_) (List.length (ints y.key)) (bytesV (ints y.key)) := (sl_RS ha655_ (Sub.rfl' _)).mono hs656_
        have H659_ := ((Holds.bring (Holds.bring H657_ 2 rfl) 1 rfl) :)
        obtain ⟨R660_, hs661_, ⟨R662_, ha663_, hs664_⟩, H665_⟩ := Holds.gift H659_
        replace H665_ : Holds w646_ (ro R660_ :: cl b641_ 223 [(Value.int .i64 y.n)] :: cl b2_ 98 [(Value.int .i64 y.target), (Value.int .i64 y.result), (Value.string y.key), (Value.string y.end_), (Value.int .i64 y.n), (Value.string y.value), (Value.bool y.bare)] :: F) := H665_
        have hz_R_R660_ := Sub.trans' hs653_ hs661_
        have hr666_ : RC R660_ b486_ 0 [(Value.int .i32 (ord32 y.result)), (Value.int .i32 (ord32 y.target)), (Value.slice (some ⟨b460_, 0, none⟩) y.key.size cp461_), (Value.iface 221 (Value.pointer (some ⟨b641_, 0, none⟩))), (Value.slice a477_ m478_ c479_)] := (cl_RC ha663_ (Sub.rfl' _)).mono hs664_
        have H667_ : Holds w646_ (ro R660_ :: F) := (Holds.pkF H665_ [0] 2 :)
        exact ⟨R660_, _, _, rfl, hz_R_R660_, ⟨b486_, rfl, rfl, (⟨_, _, _, (RS.mono hr658_ hs661_), hr666_.take 3⟩)⟩, S649_, H667_⟩
       ·have c640_fp : ¬ (y.target = 4) := of_decide_eq_false c640_f
        refine C_skip (X_blkN (X_then (hK512_ _ _ ?_)))
        clear hK512_
        refine C_seq (fun K668_ hK668_ => ?_)
        refine C_reg ?_
        refine S_list (T_val (v := (Value.pointer (some ⟨b486_, 0, none⟩))) (x_move rfl) ?_)
        refine S_list (T_val (v := (Value.pointer (some ⟨b486_, 0, none⟩))) (x_assign rfl) ?_)
        refine wpList_nil ?_
        refine (X_then (hK668_ _ _ ?_))
        clear hK668_
        refine C_ret ?_
        refine R_any (v := (Value.pointer (some ⟨b486_, 0, none⟩))) (run_results1 rfl rfl) ?_
        have H669_ := ((Holds.bring (Holds.bring H488_ 2 rfl) 2 rfl) :)
        obtain ⟨R670_, hs671_, ⟨R672_, ha673_, hs674_⟩, H675_⟩ := Holds.gift H669_
        have hr676_ : RS R670_ 1 (Value.slice (some ⟨b460_, 0, none⟩) y.key.size cp461_) (List.length (ints y.key)) (bytesV (ints y.key)) := (sl_RS ha673_ (Sub.rfl' _)).mono hs674_
        obtain ⟨R677_, hs678_, ⟨R679_, ha680_, hs681_⟩, H682_⟩ := Holds.gift H675_
        replace H682_ : Holds w487_ (ro R677_ :: cl b2_ 98 [(Value.int .i64 y.target), (Value.int .i64 y.result), (Value.string y.key), (Value.string y.end_), (Value.int .i64 y.n), (Value.string y.value), (Value.bool y.bare)] :: F) := H682_
        have hz_R_R677_ := Sub.trans' hs671_ hs678_
        have hr683_ : RC R677_ b486_ 0 [(Value.int .i32 (ord32 y.result)), (Value.int .i32 (ord32 y.target)), (Value.slice (some ⟨b460_, 0, none⟩) y.key.size cp461_), (Value.nilIface), (Value.slice a477_ m478_ c479_)] := (cl_RC ha680_ (Sub.rfl' _)).mono hs681_
        have H684_ : Holds w487_ (ro R677_ :: F) := (Holds.pkF H682_ [0] 1 :)
        exact ⟨R677_, _, _, rfl, hz_R_R677_, ⟨b486_, rfl, rfl, (⟨_, _, _, (RS.mono hr676_ hs678_), hr683_.take 3⟩)⟩, S490_, H684_⟩
 refine AllR.cons ?_ AllR.nil
 refine A_op (ls' := #[true, true, false, true, true, false, true, true, true, true, true, false, false, false, false]) rfl (by kernel_rfl) (T_s2b rfl Try.underlying9 Try.underlying122 Try.underlying5 H8_ ?_)
 intro b685_ cp686_ w687_ S689_ hc690_ H688_
 have S691_ := Same.trans (Same.trans S6_ (Same.drew _)) S689_
 have H692_ := Holds.resl H688_ 0 rfl (byteCells_bytesV _ : byteCells y.key = bytesV (ints y.key)) rfl
 have H693_ := Holds.resl H692_ 0 rfl (rfl : bytesV (ints y.key) = bytesV (ints y.key)) ((ints_length _).symm : y.key.size = (List.length (ints y.key)))
 refine ⟨⟨Holds.rd H693_ 1 rfl, (Holds.ro_at H693_ 2 rfl)⟩, ?_⟩
 refine A_ready (i := 2) (rs := []) (by kernel_rfl) ?_
 refine AllR.cons ?_ AllR.nil
 have H695_ := ((Holds.bring H693_ 2 rfl) :)
 refine A_op (ls' := #[true, true, true, true, true, false, true, true, true, true, true, false, false, false, false]) rfl (by kernel_rfl) (T_call (al := [(Value.int .i64 y.result)]) (pre := []) rfl rfl cb68 (ckOrder R y.result) H695_ ?_)
 rintro v694_ p699_ w696_ ⟨rfl, rfl⟩ S698_ H697_
 have S700_ := Same.trans S691_ S698_
 refine ⟨⟨Holds.rd H697_ 2 rfl, (Holds.ro_at H697_ 0 rfl)⟩, ?_⟩
 refine A_ready (i := 5) (rs := []) (by kernel_rfl) ?_
 refine AllR.cons ?_ AllR.nil
 refine A_op (ls' := #[true, true, true, true, true, true, true, true, true, true, true, false, false, false, false]) rfl (by kernel_rfl) (T_call (al := [(Value.int .i64 y.target)]) (pre := []) rfl rfl cb68 (ckOrder R y.target) H697_ ?_)
 rintro v701_ p705_ w702_ ⟨rfl, rfl⟩ S704_ H703_
 replace H703_ : Holds w702_ (ro R :: sl 5 1 (Value.slice (some ⟨b685_, 0, none⟩) y.key.size cp686_) (List.length (ints y.key)) (bytesV (ints y.key)) :: cl b2_ 98 [(Value.int .i64 y.target), (Value.int .i64 y.result), (Value.string y.key), (Value.string y.end_), (Value.int .i64 y.n), (Value.string y.value), (Value.bool y.bare)] :: F) := H703_
 have S706_ := Same.trans S700_ S704_
 refine ⟨⟨Holds.rd H703_ 2 rfl, (Holds.ro_at H703_ 0 rfl)⟩, ?_⟩
 refine A_ready (i := 11) (rs := []) (by kernel_rfl) ?_
 refine AllR.cons ?_ AllR.nil
 refine A_op (ls' := #[true, true, true, true, true, true, true, true, true, true, true, true, false, false, false]) rfl (by kernel_rfl) (T_call (al := [(Value.string y.end_)]) (pre := []) rfl rfl cb67 (ckBytes R y.end_) H703_ ?_)
 rintro v707_ p714_ w711_ ⟨a708_, m709_, c710_, rfl, rfl⟩ S713_ H712_
 have S715_ := Same.trans S706_ S713_
 refine ⟨⟨Holds.rd H712_ 2 rfl, (Holds.ro_at H712_ 0 rfl)⟩, ?_⟩
 have hq716_ := And.intro (Holds.rd H712_ 2 rfl) ((Holds.ro_at H712_ 0 rfl))
 refine A_tk 12 (v := (Value.agg #[(Value.int .i32 (ord32 y.result)), (Value.int .i32 (ord32 y.target)), (Value.slice (some ⟨b685_, 0, none⟩) y.key.size cp686_), (Value.nilIface), (Value.slice a708_ m709_ c710_)])) rfl (by kernel_rfl) (fun w hS => by kernel_rfl) hq716_ ?_
 refine A_ready (i := 13) (rs := []) (by kernel_rfl) ?_
 refine AllR.cons ?_ AllR.nil
 refine A_op (ls' := #[true, true, true, true, true, true, true, true, true, true, true, true, true, true, false]) rfl (by kernel_rfl) (T_box (v := (Value.agg #[(Value.int .i32 (ord32 y.result)), (Value.int .i32 (ord32 y.target)), (Value.slice (some ⟨b685_, 0, none⟩) y.key.size cp686_), (Value.nilIface), (Value.slice a708_ m709_ c710_)])) rfl H712_ ?_)
 intro b717_ w718_ S720_ H719_
 have S721_ := Same.trans S715_ S720_
 refine ⟨⟨Holds.rd H719_ 3 rfl, (Holds.ro_at H719_ 1 rfl)⟩, ?_⟩
 have hq722_ := And.intro (Holds.rd H719_ 3 rfl) ((Holds.ro_at H719_ 1 rfl))
 refine A_tk 14 (v := (Value.pointer (some ⟨b717_, 0, none⟩))) rfl (by kernel_rfl) (fun w hS => x_assign rfl) hq722_ ?_
 refine A_done (by kernel_rfl) ?_
 refine (X_then (hK7_ _ _ ?_))
 clear hK7_
 refine C_seq (fun K723_ hK723_ => ?_)
 refine C_seq (fun K724_ hK724_ => ?_)
 refine C_reg ?_
 refine S_list (T_val (v := (Value.pointer (some ⟨b2_, 6, none⟩))) (by kernel_rfl) ?_)
 refine S_list (T_val (v := (Value.bool y.bare)) (x_load1 rfl Try.underlying4 rfl ((Holds.rd H719_ 3 rfl) 6 (Value.bool y.bare) rfl)) ?_)
 refine wpList_nil ?_
 refine (X_then (hK724_ _ _ ?_))
 clear hK724_
 refine C_cond (b := y.bare) rfl (fun c725_t => ?_) (fun c725_f => ?_)
 ·skip
  refine C_seq (fun K726_ hK726_ => ?_)
  refine C_reg ?_
  refine S_list (T_val (v := (Value.pointer (some ⟨b717_, 0, none⟩))) (x_move rfl) ?_)
  refine S_list (T_val (v := (Value.pointer (some ⟨b717_, 0, none⟩))) (x_assign rfl) ?_)
  refine wpList_nil ?_
  refine (X_then (hK726_ _ _ ?_))
  clear hK726_
  refine C_ret (X_thenR ?_)
  refine R_any (v := (Value.pointer (some ⟨b717_, 0, none⟩))) (run_results1 rfl rfl) ?_
  have H727_ := ((Holds.bring (Holds.bring H719_ 2 rfl) 2 rfl) :)
  replace H727_ : Holds w718_ (ro R :: sl 5 1 (Value.slice (some ⟨b685_, 0, none⟩) y.key.size cp686_) (List.length (ints y.key)) (bytesV (ints y.key)) :: cl b717_ 201 [(Value.int .i32 (ord32 y.result)), (Value.int .i32 (ord32 y.target)), (Value.slice (some ⟨b685_, 0, none⟩) y.key.size cp686_), (Value.nilIface), (Value.slice a708_ m709_ c710_)] :: cl b2_ 98 [(Value.int .i64 y.target), (Value.int .i64 y.result), (Value.string y.key), (Value.string y.end_), (Value.int .i64 y.n), (Value.string y.value), (Value.bool y.bare)] :: F) := H727_
  obtain ⟨R728_, hs729_, ⟨R730_, ha731_, hs732_⟩, H733_⟩ := Holds.gift H727_
  have hr734_ : RS R728_ 1 (Value.slice (some ⟨b685_, 0, none⟩) y.key.size cp686_) (List.length (ints y.key)) (bytesV (ints y.key)) := (sl_RS ha731_ (Sub.rfl' _)).mono hs732_
  obtain ⟨R735_, hs736_, ⟨R737_, ha738_, hs739_⟩, H740_⟩ := Holds.gift H733_
  have hz_R_R735_ := Sub.trans' hs729_ hs736_
  have hr741_ : RC R735_ b717_ 0 [(Value.int .i32 (ord32 y.result)), (Value.int .i32 (ord32 y.target)), (Value.slice (some ⟨b685_, 0, none⟩) y.key.size cp686_), (Value.nilIface), (Value.slice a708_ m709_ c710_)] := (cl_RC ha738_ (Sub.rfl' _)).mono hs739_
  have H742_ : Holds w718_ (ro R735_ :: F) := (Holds.pkF H740_ [0] 1 :)
  exact ⟨R735_, _, _, rfl, hz_R_R735_, ⟨b717_, rfl, rfl, (⟨_, _, _, (RS.mono hr734_ hs736_), hr741_.take 3⟩)⟩, S721_, H742_⟩
 ·skip
  refine C_skip (X_then (hK723_ _ _ ?_))
  clear hK723_
  refine C_seq (fun K743_ hK743_ => ?_)
  refine C_seq (fun K744_ hK744_ => ?_)
  refine C_reg ?_
  refine S_list (T_val (v := (Value.pointer (some ⟨b2_, 0, none⟩))) (by kernel_rfl) ?_)
  refine S_list (T_val (v := (Value.int .i64 y.target)) (x_load1 rfl Try.underlying3 rfl ((Holds.rd H719_ 3 rfl) 0 (Value.int .i64 y.target) rfl)) ?_)
  refine wpList_nil ?_
  refine (X_then (hK744_ _ _ ?_))
  clear hK744_
  refine C_block ?_
  refine C_seq (fun K745_ hK745_ => ?_)
  refine C_reg ?_
  refine S_list (T_val (v := (Value.bool (decide (y.target = 0)))) (x_bin rfl rfl rfl) ?_)
  refine S_list (T_val (v := (Value.bool (decide (y.target = 0)))) (x_assign rfl) ?_)
  refine wpList_nil ?_
  refine (X_then (hK745_ _ _ ?_))
  clear hK745_
  refine C_cond (b := decide (y.target = 0)) rfl (fun c746_t => ?_) (fun c746_f => ?_)
  ·have c746_tp : y.target = 0 := of_decide_eq_true c746_t
   refine C_reg ?_
   refine S_list (T_val (v := (Value.pointer (some ⟨b717_, 0, none⟩))) (x_move rfl) ?_)
   refine S_list (T_val (v := (Value.pointer (some ⟨b2_, 4, none⟩))) (by kernel_rfl) ?_)
   refine S_list (T_val (v := (Value.int .i64 y.n)) (x_load1 rfl Try.underlying2 rfl ((Holds.rd H719_ 3 rfl) 4 (Value.int .i64 y.n) rfl)) ?_)
   refine S_list (T_val (v := (Value.agg #[(Value.int .i64 y.n)])) (by kernel_rfl) ?_)
   refine S_list (T_box (v := (Value.agg #[(Value.int .i64 y.n)])) rfl H719_ ?_)
   intro b747_ w748_ S750_ H749_
   have S751_ := Same.trans S721_ S750_
   refine S_list (T_val (v := (Value.iface 209 (Value.pointer (some ⟨b747_, 0, none⟩)))) (by kernel_rfl) ?_)
   refine S_list (T_val (v := (Value.pointer (some ⟨b717_, 0, none⟩))) (by kernel_rfl) ?_)
   refine S_list (T_val (v := (Value.pointer (some ⟨b717_, 3, none⟩))) (by kernel_rfl) ?_)
   refine S_list0 (T_store1 (v := (Value.iface 209 (Value.pointer (some ⟨b747_, 0, none⟩)))) rfl rfl z20 rfl H749_ 1 rfl (Nat.le_of_ble_eq_true (by rfl)) ?_)
   intro w752_ S754_ H753_
   have S755_ := Same.trans S751_ S754_
   refine wpList_nil ?_
   refine (X_blkN (X_then (hK743_ _ _ ?_)))
   clear hK743_
   refine C_seq (fun K756_ hK756_ => ?_)
   refine C_reg ?_
   refine S_list (T_val (v := (Value.pointer (some ⟨b717_, 0, none⟩))) (x_move rfl) ?_)
   refine S_list (T_val (v := (Value.pointer (some ⟨b717_, 0, none⟩))) (x_assign rfl) ?_)
   refine wpList_nil ?_
   refine (X_then (hK756_ _ _ ?_))
   clear hK756_
   refine C_ret ?_
   refine R_any (v := (Value.pointer (some ⟨b717_, 0, none⟩))) (run_results1 rfl rfl) ?_
   have H757_ := ((Holds.bring (Holds.bring H753_ 3 rfl) 3 rfl) :)
   replace H757_ : Holds w752_ (ro R :: sl 5 1 (Value.slice (some ⟨b685_, 0, none⟩) y.key.size cp686_) (List.length (ints y.key)) (bytesV (ints y.key)) :: cl b747_ 211 [(Value.int .i64 y.n)] :: cl b717_ 201 [(Value.int .i32 (ord32 y.result)), (Value.int .i32 (ord32 y.target)), (Value.slice (some ⟨b685_, 0, none⟩) y.key.size cp686_), (Value.iface 209 (Value.pointer (some ⟨b747_, 0, none⟩))), (Value.slice a708_ m709_ c710_)] :: cl b2_ 98 [(Value.int .i64 y.target), (Value.int .i64 y.result), (Value.string y.key), (Value.string y.end_), (Value.int .i64 y.n), (Value.string y.value), (Value.bool y.bare)] :: F) := H757_
   obtain ⟨R758_, hs759_, ⟨R760_, ha761_, hs762_⟩, H763_⟩ := Holds.gift H757_
   have hr764_ : RS R758_ 1 (Value.slice (some ⟨b685_, 0, none⟩) y.key.size cp686_) (List.length (ints y.key)) (bytesV (ints y.key)) := (sl_RS ha761_ (Sub.rfl' _)).mono hs762_
   have H765_ := ((Holds.bring (Holds.bring H763_ 2 rfl) 1 rfl) :)
   obtain ⟨R766_, hs767_, ⟨R768_, ha769_, hs770_⟩, H771_⟩ := Holds.gift H765_
   replace H771_ : Holds w752_ (ro R766_ :: cl b747_ 211 [(Value.int .i64 y.n)] :: cl b2_ 98 [(Value.int .i64 y.target), (Value.int .i64 y.result), (Value.string y.key), (Value.string y.end_), (Value.int .i64 y.n), (Value.string y.value), (Value.bool y.bare)] :: F) := H771_
   have hz_R_R766_ := Sub.trans' hs759_ hs767_
   have hr772_ : RC R766_ b717_ 0 [(Value.int .i32 (ord32 y.result)), (Value.int .i32 (ord32 y.target)), (Value.slice (some ⟨b685_, 0, none⟩) y.key.size cp686_), (Value.iface 209 (Value.pointer (some ⟨b747_, 0, none⟩))), (Value.slice a708_ m709_ c710_)] := (cl_RC ha769_ (Sub.rfl' _)).mono hs770_
   have H773_ : Holds w752_ (ro R766_ :: F) := (Holds.pkF H771_ [0] 2 :)
   exact ⟨R766_, _, _, rfl, hz_R_R766_, ⟨b717_, rfl, rfl, (⟨_, _, _, (RS.mono hr764_ hs767_), hr772_.take 3⟩)⟩, S755_, H773_⟩
  ·have c746_fp : ¬ (y.target = 0) := of_decide_eq_false c746_f
   refine C_seq (fun K774_ hK774_ => ?_)
   refine C_reg ?_
   refine S_list (T_val (v := (Value.bool (decide (y.target = 1)))) (x_bin rfl rfl rfl) ?_)
   refine S_list (T_val (v := (Value.bool (decide (y.target = 1)))) (x_assign rfl) ?_)
   refine wpList_nil ?_
   refine (X_then (hK774_ _ _ ?_))
   clear hK774_
   refine C_cond (b := decide (y.target = 1)) rfl (fun c775_t => ?_) (fun c775_f => ?_)
   ·have c775_tp : y.target = 1 := of_decide_eq_true c775_t
    refine C_reg ?_
    refine S_list (T_val (v := (Value.pointer (some ⟨b717_, 0, none⟩))) (x_move rfl) ?_)
    refine S_list (T_val (v := (Value.pointer (some ⟨b2_, 4, none⟩))) (by kernel_rfl) ?_)
    refine S_list (T_val (v := (Value.int .i64 y.n)) (x_load1 rfl Try.underlying2 rfl ((Holds.rd H719_ 3 rfl) 4 (Value.int .i64 y.n) rfl)) ?_)
    refine S_list (T_val (v := (Value.agg #[(Value.int .i64 y.n)])) (by kernel_rfl) ?_)
    refine S_list (T_box (v := (Value.agg #[(Value.int .i64 y.n)])) rfl H719_ ?_)
    intro b776_ w777_ S779_ H778_
    have S780_ := Same.trans S721_ S779_
    refine S_list (T_val (v := (Value.iface 212 (Value.pointer (some ⟨b776_, 0, none⟩)))) (by kernel_rfl) ?_)
    refine S_list (T_val (v := (Value.pointer (some ⟨b717_, 0, none⟩))) (by kernel_rfl) ?_)
    refine S_list (T_val (v := (Value.pointer (some ⟨b717_, 3, none⟩))) (by kernel_rfl) ?_)
    refine S_list0 (T_store1 (v := (Value.iface 212 (Value.pointer (some ⟨b776_, 0, none⟩)))) rfl rfl z20 rfl H778_ 1 rfl (Nat.le_of_ble_eq_true (by rfl)) ?_)
    intro w781_ S783_ H782_
    have S784_ := Same.trans S780_ S783_
    refine wpList_nil ?_
    refine (X_blkN (X_then (hK743_ _ _ ?_)))
    clear hK743_
    refine C_seq (fun K785_ hK785_ => ?_)
    refine C_reg ?_
    refine S_list (T_val (v := (Value.pointer (some ⟨b717_, 0, none⟩))) (x_move rfl) ?_)
    refine S_list (T_val (v := (Value.pointer (some ⟨b717_, 0, none⟩))) (x_assign rfl) ?_)
    refine wpList_nil ?_
    refine (X_then (hK785_ _ _ ?_))
    clear hK785_
    refine C_ret ?_
    refine R_any (v := (Value.pointer (some ⟨b717_, 0, none⟩))) (run_results1 rfl rfl) ?_
    have H786_ := ((Holds.bring (Holds.bring H782_ 3 rfl) 3 rfl) :)
    replace H786_ : Holds w781_ (ro R :: sl 5 1 (Value.slice (some ⟨b685_, 0, none⟩) y.key.size cp686_) (List.length (ints y.key)) (bytesV (ints y.key)) :: cl b776_ 214 [(Value.int .i64 y.n)] :: cl b717_ 201 [(Value.int .i32 (ord32 y.result)), (Value.int .i32 (ord32 y.target)), (Value.slice (some ⟨b685_, 0, none⟩) y.key.size cp686_), (Value.iface 212 (Value.pointer (some ⟨b776_, 0, none⟩))), (Value.slice a708_ m709_ c710_)] :: cl b2_ 98 [(Value.int .i64 y.target), (Value.int .i64 y.result), (Value.string y.key), (Value.string y.end_), (Value.int .i64 y.n), (Value.string y.value), (Value.bool y.bare)] :: F) := H786_
    obtain ⟨R787_, hs788_, ⟨R789_, ha790_, hs791_⟩, H792_⟩ := Holds.gift H786_
    have hr793_ : RS R787_ 1 (Value.slice (some ⟨b685_, 0, none⟩) y.key.size cp686_) (List.length (ints y.key)) (bytesV (ints y.key)) := (sl_RS ha790_ (Sub.rfl' _)).mono hs791_
    have H794_ := ((Holds.bring (Holds.bring H792_ 2 rfl) 1 rfl) :)
    obtain ⟨R795_, hs796_, ⟨R797_, ha798_, hs799_⟩, H800_⟩ := Holds.gift H794_
    replace H800_ : Holds w781_ (ro R795_ :: cl b776_ 214 [(Value.int .i64 y.n)] :: cl b2_ 98 [(Value.int .i64 y.target), (Value.int .i64 y.result), (Value.string y.key), (Value.string y.end_), (Value.int .i64 y.n), (Value.string y.value), (Value.bool y.bare)] :: F) := H800_
    have hz_R_R795_ := Sub.trans' hs788_ hs796_
    have hr801_ : RC R795_ b717_ 0 [(Value.int .i32 (ord32 y.result)), (Value.int .i32 (ord32 y.target)), (Value.slice (some ⟨b685_, 0, none⟩) y.key.size cp686_), (Value.iface 212 (Value.pointer (some ⟨b776_, 0, none⟩))), (Value.slice a708_ m709_ c710_)] := (cl_RC ha798_ (Sub.rfl' _)).mono hs799_
    have H802_ : Holds w781_ (ro R795_ :: F) := (Holds.pkF H800_ [0] 2 :)
    exact ⟨R795_, _, _, rfl, hz_R_R795_, ⟨b717_, rfl, rfl, (⟨_, _, _, (RS.mono hr793_ hs796_), hr801_.take 3⟩)⟩, S784_, H802_⟩
   ·have c775_fp : ¬ (y.target = 1) := of_decide_eq_false c775_f
    refine C_seq (fun K803_ hK803_ => ?_)
    refine C_reg ?_
    refine S_list (T_val (v := (Value.bool (decide (y.target = 2)))) (x_bin rfl rfl rfl) ?_)
    refine S_list (T_val (v := (Value.bool (decide (y.target = 2)))) (x_assign rfl) ?_)
    refine wpList_nil ?_
    refine (X_then (hK803_ _ _ ?_))
    clear hK803_
    refine C_cond (b := decide (y.target = 2)) rfl (fun c804_t => ?_) (fun c804_f => ?_)
    ·have c804_tp : y.target = 2 := of_decide_eq_true c804_t
     refine C_reg ?_
     refine S_list (T_val (v := (Value.pointer (some ⟨b717_, 0, none⟩))) (x_move rfl) ?_)
     refine S_list (T_val (v := (Value.pointer (some ⟨b2_, 4, none⟩))) (by kernel_rfl) ?_)
     refine S_list (T_val (v := (Value.int .i64 y.n)) (x_load1 rfl Try.underlying2 rfl ((Holds.rd H719_ 3 rfl) 4 (Value.int .i64 y.n) rfl)) ?_)
     refine S_list (T_val (v := (Value.agg #[(Value.int .i64 y.n)])) (by kernel_rfl) ?_)
     refine S_list (T_box (v := (Value.agg #[(Value.int .i64 y.n)])) rfl H719_ ?_)
     intro b805_ w806_ S808_ H807_
     have S809_ := Same.trans S721_ S808_
     refine S_list (T_val (v := (Value.iface 215 (Value.pointer (some ⟨b805_, 0, none⟩)))) (by kernel_rfl) ?_)
     refine S_list (T_val (v := (Value.pointer (some ⟨b717_, 0, none⟩))) (by kernel_rfl) ?_)
     refine S_list (T_val (v := (Value.pointer (some ⟨b717_, 3, none⟩))) (by kernel_rfl) ?_)
     refine S_list0 (T_store1 (v := (Value.iface 215 (Value.pointer (some ⟨b805_, 0, none⟩)))) rfl rfl z20 rfl H807_ 1 rfl (Nat.le_of_ble_eq_true (by rfl)) ?_)
     intro w810_ S812_ H811_
     have S813_ := Same.trans S809_ S812_
     refine wpList_nil ?_
     refine (X_blkN (X_then (hK743_ _ _ ?_)))
     clear hK743_
     refine C_seq (fun K814_ hK814_ => ?_)
     refine C_reg ?_
     refine S_list (T_val (v := (Value.pointer (some ⟨b717_, 0, none⟩))) (x_move rfl) ?_)
     refine S_list (T_val (v := (Value.pointer (some ⟨b717_, 0, none⟩))) (x_assign rfl) ?_)
     refine wpList_nil ?_
     refine (X_then (hK814_ _ _ ?_))
     clear hK814_
     refine C_ret ?_
     refine R_any (v := (Value.pointer (some ⟨b717_, 0, none⟩))) (run_results1 rfl rfl) ?_
     have H815_ := ((Holds.bring (Holds.bring H811_ 3 rfl) 3 rfl) :)
     replace H815_ : Holds w810_ (ro R :: sl 5 1 (Value.slice (some ⟨b685_, 0, none⟩) y.key.size cp686_) (List.length (ints y.key)) (bytesV (ints y.key)) :: cl b805_ 217 [(Value.int .i64 y.n)] :: cl b717_ 201 [(Value.int .i32 (ord32 y.result)), (Value.int .i32 (ord32 y.target)), (Value.slice (some ⟨b685_, 0, none⟩) y.key.size cp686_), (Value.iface 215 (Value.pointer (some ⟨b805_, 0, none⟩))), (Value.slice a708_ m709_ c710_)] :: cl b2_ 98 [(Value.int .i64 y.target), (Value.int .i64 y.result), (Value.string y.key), (Value.string y.end_), (Value.int .i64 y.n), (Value.string y.value), (Value.bool y.bare)] :: F) := H815_
     obtain ⟨R816_, hs817_, ⟨R818_, ha819_, hs820_⟩, H821_⟩ := Holds.gift H815_
     have hr822_ : RS R816_ 1 (Value.slice (some ⟨b685_, 0, none⟩) y.key.size cp686_) (List.length (ints y.key)) (bytesV (ints y.key)) := (sl_RS ha819_ (Sub.rfl' _)).mono hs820_
     have H823_ := ((Holds.bring (Holds.bring H821_ 2 rfl) 1 rfl) :)
     obtain ⟨R824_, hs825_, ⟨R826_, ha827_, hs828_⟩, H829_⟩ := Holds.gift H823_
     replace H829_ : Holds w810_ (ro R824_ :: cl b805_ 217 [(Value.int .i64 y.n)] :: cl b2_ 98 [(Value.int .i64 y.target), (Value.int .i64 y.result), (Value.string y.key), (Value.string y.end_), (Value.int .i64 y.n), (Value.string y.value), (Value.bool y.bare)] :: F) := H829_
     have hz_R_R824_ := Sub.trans' hs817_ hs825_
     have hr830_ : RC R824_ b717_ 0 [(Value.int .i32 (ord32 y.result)), (Value.int .i32 (ord32 y.target)), (Value.slice (some ⟨b685_, 0, none⟩) y.key.size cp686_), (Value.iface 215 (Value.pointer (some ⟨b805_, 0, none⟩))), (Value.slice a708_ m709_ c710_)] := (cl_RC ha827_ (Sub.rfl' _)).mono hs828_
     have H831_ : Holds w810_ (ro R824_ :: F) := (Holds.pkF H829_ [0] 2 :)
     exact ⟨R824_, _, _, rfl, hz_R_R824_, ⟨b717_, rfl, rfl, (⟨_, _, _, (RS.mono hr822_ hs825_), hr830_.take 3⟩)⟩, S813_, H831_⟩
    ·have c804_fp : ¬ (y.target = 2) := of_decide_eq_false c804_f
     refine C_seq (fun K832_ hK832_ => ?_)
     refine C_reg ?_
     refine S_list (T_val (v := (Value.bool (decide (y.target = 3)))) (x_bin rfl rfl rfl) ?_)
     refine S_list (T_val (v := (Value.bool (decide (y.target = 3)))) (x_assign rfl) ?_)
     refine wpList_nil ?_
     refine (X_then (hK832_ _ _ ?_))
     clear hK832_
     refine C_cond (b := decide (y.target = 3)) rfl (fun c833_t => ?_) (fun c833_f => ?_)
     ·have c833_tp : y.target = 3 := of_decide_eq_true c833_t
      refine C_reg ?_
      refine S_list (T_val (v := (Value.pointer (some ⟨b717_, 0, none⟩))) (x_move rfl) ?_)
      refine S_list (T_val (v := (Value.pointer (some ⟨b2_, 5, none⟩))) (by kernel_rfl) ?_)
      refine S_list (T_val (v := (Value.string y.value)) (x_load1 rfl Try.underlying9 rfl ((Holds.rd H719_ 3 rfl) 5 (Value.string y.value) rfl)) ?_)
      refine S_list (T_s2b rfl Try.underlying9 Try.underlying122 Try.underlying5 H719_ ?_)
      intro b834_ cp835_ w836_ S838_ hc839_ H837_
      have S840_ := Same.trans S721_ S838_
      have H841_ := Holds.resl H837_ 0 rfl (byteCells_bytesV _ : byteCells y.value = bytesV (ints y.value)) rfl
      have H842_ := Holds.resl H841_ 0 rfl (rfl : bytesV (ints y.value) = bytesV (ints y.value)) ((ints_length _).symm : y.value.size = (List.length (ints y.value)))
      refine S_list (T_val (v := (Value.agg #[(Value.slice (some ⟨b834_, 0, none⟩) y.value.size cp835_)])) (by kernel_rfl) ?_)
      refine S_list (T_box (v := (Value.agg #[(Value.slice (some ⟨b834_, 0, none⟩) y.value.size cp835_)])) rfl H842_ ?_)
      intro b843_ w844_ S846_ H845_
      have S847_ := Same.trans S840_ S846_
      refine S_list (T_val (v := (Value.iface 218 (Value.pointer (some ⟨b843_, 0, none⟩)))) (by kernel_rfl) ?_)
      refine S_list (T_val (v := (Value.pointer (some ⟨b717_, 0, none⟩))) (by kernel_rfl) ?_)
      refine S_list (T_val (v := (Value.pointer (some ⟨b717_, 3, none⟩))) (by kernel_rfl) ?_)
      refine S_list0 (T_store1 (v := (Value.iface 218 (Value.pointer (some ⟨b843_, 0, none⟩)))) rfl rfl z20 rfl H845_ 2 rfl (Nat.le_of_ble_eq_true (by rfl)) ?_)
      intro w848_ S850_ H849_
      have S851_ := Same.trans S847_ S850_
      refine wpList_nil ?_
      refine (X_blkN (X_then (hK743_ _ _ ?_)))
      clear hK743_
      refine C_seq (fun K852_ hK852_ => ?_)
      refine C_reg ?_
      refine S_list (T_val (v := (Value.pointer (some ⟨b717_, 0, none⟩))) (x_move rfl) ?_)
      refine S_list (T_val (v := (Value.pointer (some ⟨b717_, 0, none⟩))) (x_assign rfl) ?_)
      refine wpList_nil ?_
      refine (X_then (hK852_ _ _ ?_))
      clear hK852_
      refine C_ret ?_
      refine R_any (v := (Value.pointer (some ⟨b717_, 0, none⟩))) (run_results1 rfl rfl) ?_
      have H853_ := ((Holds.bring (Holds.bring H849_ 4 rfl) 4 rfl) :)
      replace H853_ : Holds w848_ (ro R :: sl 5 1 (Value.slice (some ⟨b685_, 0, none⟩) y.key.size cp686_) (List.length (ints y.key)) (bytesV (ints y.key)) :: cl b843_ 220 [(Value.slice (some ⟨b834_, 0, none⟩) y.value.size cp835_)] :: sl 5 1 (Value.slice (some ⟨b834_, 0, none⟩) y.value.size cp835_) (List.length (ints y.value)) (bytesV (ints y.value)) :: cl b717_ 201 [(Value.int .i32 (ord32 y.result)), (Value.int .i32 (ord32 y.target)), (Value.slice (some ⟨b685_, 0, none⟩) y.key.size cp686_), (Value.iface 218 (Value.pointer (some ⟨b843_, 0, none⟩))), (Value.slice a708_ m709_ c710_)] :: cl b2_ 98 [(Value.int .i64 y.target), (Value.int .i64 y.result), (Value.string y.key), (Value.string y.end_), (Value.int .i64 y.n), (Value.string y.value), (Value.bool y.bare)] :: F) := H853_
      obtain ⟨R854_, hs855_, ⟨R856_, ha857_, hs858_⟩, H859_⟩ := Holds.gift H853_
      have hr860_ : RS R854_ 1 (Value.slice (some ⟨b685_, 0, none⟩) y.key.size cp686_) (List.length (ints y.key)) (bytesV (ints y.key)) := (sl_RS ha857_ (Sub.rfl' _)).mono hs858_
      have H861_ := ((Holds.bring (Holds.bring H859_ 3 rfl) 1 rfl) :)
      obtain ⟨R862_, hs863_, ⟨R864_, ha865_, hs866_⟩, H867_⟩ := Holds.gift H861_
      replace H867_ : Holds w848_ (ro R862_ :: cl b843_ 220 [(Value.slice (some ⟨b834_, 0, none⟩) y.value.size cp835_)] :: sl 5 1 (Value.slice (some ⟨b834_, 0, none⟩) y.value.size cp835_) (List.length (ints y.value)) (bytesV (ints y.value)) :: cl b2_ 98 [(Value.int .i64 y.target), (Value.int .i64 y.result), (Value.string y.key), (Value.string y.end_), (Value.int .i64 y.n), (Value.string y.value), (Value.bool y.bare)] :: F) := H867_
      have hz_R_R862_ := Sub.trans' hs855_ hs863_
      have hr868_ : RC R862_ b717_ 0 [(Value.int .i32 (ord32 y.result)), (Value.int .i32 (ord32 y.target)), (Value.slice (some ⟨b685_, 0, none⟩) y.key.size cp686_), (Value.iface 218 (Value.pointer (some ⟨b843_, 0, none⟩))), (Value.slice a708_ m709_ c710_)] := (cl_RC ha865_ (Sub.rfl' _)).mono hs866_
      have H869_ : Holds w848_ (ro R862_ :: F) := (Holds.pkF H867_ [0] 3 :)
      exact ⟨R862_, _, _, rfl, hz_R_R862_, ⟨b717_, rfl, rfl, (⟨_, _, _, (RS.mono hr860_ hs863_), hr868_.take 3⟩)⟩, S851_, H869_⟩
     ·have c833_fp : ¬ (y.target = 3) := of_decide_eq_false c833_f
      refine C_seq (fun K870_ hK870_ => ?_)
      refine C_reg ?_
      refine S_list (T_val (v := (Value.bool (decide (y.target = 4)))) (x_bin rfl rfl rfl) ?_)
      refine S_list (T_val (v := (Value.bool (decide (y.target = 4)))) (x_assign rfl) ?_)
      refine wpList_nil ?_
      refine (X_then (hK870_ _ _ ?_))
      clear hK870_
      refine C_cond (b := decide (y.target = 4)) rfl (fun c871_t => ?_) (fun c871_f => ?_)
      ·have c871_tp : y.target = 4 := of_decide_eq_true c871_t
       refine C_reg ?_
       refine S_list (T_val (v := (Value.pointer (some ⟨b717_, 0, none⟩))) (x_move rfl) ?_)
       refine S_list (T_val (v := (Value.pointer (some ⟨b2_, 4, none⟩))) (by kernel_rfl) ?_)
       refine S_list (T_val (v := (Value.int .i64 y.n)) (x_load1 rfl Try.underlying2 rfl ((Holds.rd H719_ 3 rfl) 4 (Value.int .i64 y.n) rfl)) ?_)
       refine S_list (T_val (v := (Value.agg #[(Value.int .i64 y.n)])) (by kernel_rfl) ?_)
       refine S_list (T_box (v := (Value.agg #[(Value.int .i64 y.n)])) rfl H719_ ?_)
       intro b872_ w873_ S875_ H874_
       have S876_ := Same.trans S721_ S875_
       refine S_list (T_val (v := (Value.iface 221 (Value.pointer (some ⟨b872_, 0, none⟩)))) (by kernel_rfl) ?_)
       refine S_list (T_val (v := (Value.pointer (some ⟨b717_, 0, none⟩))) (by kernel_rfl) ?_)
       refine S_list (T_val (v := (Value.pointer (some ⟨b717_, 3, none⟩))) (by kernel_rfl) ?_)
       refine S_list0 (T_store1 (v := (Value.iface 221 (Value.pointer (some ⟨b872_, 0, none⟩)))) rfl rfl z20 rfl H874_ 1 rfl (Nat.le_of_ble_eq_true (by rfl)) ?_)
       intro w877_ S879_ H878_
       have S880_ := Same.trans S876_ S879_
       refine wpList_nil ?_
       refine (X_blkN (X_then (hK743_ _ _ ?_)))
       clear hK743_
       refine C_seq (fun K881_ hK881_ => ?_)
       refine C_reg ?_
       refine S_list (T_val (v := (Value.pointer (some ⟨b717_, 0, none⟩))) (x_move rfl) ?_)
       refine S_list (T_val (v := (Value.pointer (some ⟨b717_, 0, none⟩))) (x_assign rfl) ?_)
       refine wpList_nil ?_
       refine (X_then (hK881_ _ _ ?_))
       clear hK881_
       refine C_ret ?_
       refine R_any (v := (Value.pointer (some ⟨b717_, 0, none⟩))) (run_results1 rfl rfl) ?_
       have H882_ := ((Holds.bring (Holds.bring H878_ 3 rfl) 3 rfl) :)
       replace H882_ : Holds w877_ (ro R :: sl 5 1 (Value.slice (some ⟨b685_, 0, none⟩) y.key.size cp686_) (List.length (ints y.key)) (bytesV (ints y.key)) :: cl b872_ 223 [(Value.int .i64 y.n)] :: cl b717_ 201 [(Value.int .i32 (ord32 y.result)), (Value.int .i32 (ord32 y.target)), (Value.slice (some ⟨b685_, 0, none⟩) y.key.size cp686_), (Value.iface 221 (Value.pointer (some ⟨b872_, 0, none⟩))), (Value.slice a708_ m709_ c710_)] :: cl b2_ 98 [(Value.int .i64 y.target), (Value.int .i64 y.result), (Value.string y.key), (Value.string y.end_), (Value.int .i64 y.n), (Value.string y.value), (Value.bool y.bare)] :: F) := H882_
       obtain ⟨R883_, hs884_, ⟨R885_, ha886_, hs887_⟩, H888_⟩ := Holds.gift H882_
       have hr889_ : RS R883_ 1 (Value.slice (some ⟨b685_, 0, none⟩) y.key.size cp686_) (List.length (ints y.key)) (bytesV (ints y.key)) := (sl_RS ha886_ (Sub.rfl' _)).mono hs887_
       have H890_ := ((Holds.bring (Holds.bring H888_ 2 rfl) 1 rfl) :)
       obtain ⟨R891_, hs892_, ⟨R893_, ha894_, hs895_⟩, H896_⟩ := Holds.gift H890_
       replace H896_ : Holds w877_ (ro R891_ :: cl b872_ 223 [(Value.int .i64 y.n)] :: cl b2_ 98 [(Value.int .i64 y.target), (Value.int .i64 y.result), (Value.string y.key), (Value.string y.end_), (Value.int .i64 y.n), (Value.string y.value), (Value.bool y.bare)] :: F) := H896_
       have hz_R_R891_ := Sub.trans' hs884_ hs892_
       have hr897_ : RC R891_ b717_ 0 [(Value.int .i32 (ord32 y.result)), (Value.int .i32 (ord32 y.target)), (Value.slice (some ⟨b685_, 0, none⟩) y.key.size cp686_), (Value.iface 221 (Value.pointer (some ⟨b872_, 0, none⟩))), (Value.slice a708_ m709_ c710_)] := (cl_RC ha894_ (Sub.rfl' _)).mono hs895_
       have H898_ : Holds w877_ (ro R891_ :: F) := (Holds.pkF H896_ [0] 2 :)
       exact ⟨R891_, _, _, rfl, hz_R_R891_, ⟨b717_, rfl, rfl, (⟨_, _, _, (RS.mono hr889_ hs892_), hr897_.take 3⟩)⟩, S880_, H898_⟩
      ·have c871_fp : ¬ (y.target = 4) := of_decide_eq_false c871_f
       refine C_skip (X_blkN (X_then (hK743_ _ _ ?_)))
       clear hK743_
       refine C_seq (fun K899_ hK899_ => ?_)
       refine C_reg ?_
       refine S_list (T_val (v := (Value.pointer (some ⟨b717_, 0, none⟩))) (x_move rfl) ?_)
       refine S_list (T_val (v := (Value.pointer (some ⟨b717_, 0, none⟩))) (x_assign rfl) ?_)
       refine wpList_nil ?_
       refine (X_then (hK899_ _ _ ?_))
       clear hK899_
       refine C_ret ?_
       refine R_any (v := (Value.pointer (some ⟨b717_, 0, none⟩))) (run_results1 rfl rfl) ?_
       have H900_ := ((Holds.bring (Holds.bring H719_ 2 rfl) 2 rfl) :)
       obtain ⟨R901_, hs902_, ⟨R903_, ha904_, hs905_⟩, H906_⟩ := Holds.gift H900_
       have hr907_ : RS R901_ 1 (Value.slice (some ⟨b685_, 0, none⟩) y.key.size cp686_) (List.length (ints y.key)) (bytesV (ints y.key)) := (sl_RS ha904_ (Sub.rfl' _)).mono hs905_
       obtain ⟨R908_, hs909_, ⟨R910_, ha911_, hs912_⟩, H913_⟩ := Holds.gift H906_
       replace H913_ : Holds w718_ (ro R908_ :: cl b2_ 98 [(Value.int .i64 y.target), (Value.int .i64 y.result), (Value.string y.key), (Value.string y.end_), (Value.int .i64 y.n), (Value.string y.value), (Value.bool y.bare)] :: F) := H913_
       have hz_R_R908_ := Sub.trans' hs902_ hs909_
       have hr914_ : RC R908_ b717_ 0 [(Value.int .i32 (ord32 y.result)), (Value.int .i32 (ord32 y.target)), (Value.slice (some ⟨b685_, 0, none⟩) y.key.size cp686_), (Value.nilIface), (Value.slice a708_ m709_ c710_)] := (cl_RC ha911_ (Sub.rfl' _)).mono hs912_
       have H915_ : Holds w718_ (ro R908_ :: F) := (Holds.pkF H913_ [0] 1 :)
       exact ⟨R908_, _, _, rfl, hz_R_R908_, ⟨b717_, rfl, rfl, (⟨_, _, _, (RS.mono hr907_ hs909_), hr914_.take 3⟩)⟩, S721_, H915_⟩
end Go.Proofs.Ytlnihndjepjagaa
