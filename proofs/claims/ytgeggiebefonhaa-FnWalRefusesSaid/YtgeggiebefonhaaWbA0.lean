/- What is written of records. -/
import Derived.Test.YtgeggiebefonhaaWbD
set_option linter.unusedVariables false
set_option linter.unusedSimpArgs false
namespace Go.Proofs.Ytgeggiebefonhaa
open Go Go.RowKit Gw

set_option maxHeartbeats 400000 in
theorem wNewEnc (R : HP) (pg po : Nat) (n : Int) :
    Tri Try.prog 74 #[(Value.iface 95 (Value.pointer (some ⟨pg, 0, none⟩))), (Value.int .u32 n), (Value.int .i64 (po : Int))] R [] (fun v__ post__ => ∃ (en pw cb ub bb : Nat), v__ = (Value.pointer (some ⟨en, 0, none⟩)) ∧ post__ = [cl en 216 [(Value.pointer (some ⟨pw, 0, none⟩)), (Value.pointer (some ⟨cb, 0, none⟩)), (Value.slice (some ⟨ub, 0, none⟩) 8 8)], cl cb 244 [(Value.int .u32 n)], cl ub 5 [(Value.int .u8 0), (Value.int .u8 0), (Value.int .u8 0), (Value.int .u8 0), (Value.int .u8 0), (Value.int .u8 0), (Value.int .u8 0), (Value.int .u8 0)], cl pw 255 [(Value.iface 95 (Value.pointer (some ⟨pg, 0, none⟩))), (Value.int .i64 (po : Int)), (Value.int .i64 4096), (Value.int .i64 0), (Value.slice (some ⟨bb, 0, none⟩) 135168 135168), (Value.int .i64 131072)], cl bb 5 (bytesV ([] : List Int) ++ List.replicate 135168 (Value.int .u8 0))]) := by
  refine Tri.into (n := 15) (al := [(Value.iface 95 (Value.pointer (some ⟨pg, 0, none⟩))), (Value.int .u32 n), (Value.int .i64 (po : Int))]) Try.func74 rfl Try.ntmps74 rfl rfl fun w F H => ?_
  replace H : Holds w (ro R :: F) := H
  refine C_seq (fun K1_ hK1_ => ?_)
  refine C_reg ?_
  refine S_list (T_val (v := (Value.pointer none)) (x_assign rfl) ?_)
  refine wpList_nil ?_
  refine (X_then (hK1_ _ _ ?_))
  clear hK1_
  refine C_seq (fun K2_ hK2_ => ?_)
  refine A_start (S := fun w => Sub R (hp w)) (N := 9) foll rfl rfl ?_
  have H3_ : Holds w.drew (ro R :: F) := H
  have hq4_ := ((Holds.ro_at H3_ 0 rfl))
  refine A_tk 0 (v := (Value.iface 95 (Value.pointer (some ⟨pg, 0, none⟩)))) rfl (by kernel_rfl) (fun w hS => x_move rfl) hq4_ ?_
  refine A_tk 1 (v := (Value.int .i64 (po : Int))) rfl (by kernel_rfl) (fun w hS => x_move rfl) hq4_ ?_
  refine A_tk 3 (v := (Value.int .u32 n)) rfl (by kernel_rfl) (fun w hS => x_move rfl) hq4_ ?_
  refine A_ready (i := 2) (rs := [5]) (by kernel_rfl) ?_
  refine AllR.cons ?_ ?_
  · skip
    refine A_op (ls' := #[true, true, true, true, false, false, false, false, false]) rfl (by kernel_rfl) (T_callW (al := [(Value.iface 95 (Value.pointer (some ⟨pg, 0, none⟩))), (Value.int .i64 4096), (Value.int .i64 (po : Int))]) rfl rfl cb98 (Calls.into (n := 20) (al := [(Value.iface 95 (Value.pointer (some ⟨pg, 0, none⟩))), (Value.int .i64 4096), (Value.int .i64 (po : Int))]) Try.func98 rfl Try.ntmps98 rfl rfl ?_))
    refine C_seq (fun K5_ hK5_ => ?_)
    refine C_reg ?_
    refine S_list (T_val (v := (Value.pointer none)) (x_assign rfl) ?_)
    refine wpList_nil ?_
    refine (X_then (hK5_ _ _ ?_))
    clear hK5_
    refine C_seq (fun K6_ hK6_ => ?_)
    refine C_reg ?_
    refine S_list (T_val (v := (Value.int .i64 4096)) (x_move rfl) ?_)
    refine S_list (T_val (v := (Value.bool true)) (x_bin rfl rfl rfl) ?_)
    refine S_list (T_val (v := (Value.int .i64 4096)) (x_move rfl) ?_)
    refine S_list (T_new (obj := .cells #[(Value.int .i64 4096)] 3) (f := fun b__ => .slice (some ⟨b__, 0, none⟩) 1 1) (A := fun b__ => cl b__ 3 [(Value.int .i64 4096)]) (by kernel_rfl) (fun l h => h.alloc _ _) H3_ ?_)
    intro b7_ w8_ S10_ H9_
    replace H9_ : Holds w8_ (cl b7_ 3 [(Value.int .i64 4096)] :: ro R :: F) := H9_
    have S11_ := Same.trans (Same.trans (Same.refl w) (Same.drew _)) S10_
    refine S_list (T_callW (al := [(Value.bool true), (Value.string (ByteArray.mk #[105, 110, 118, 97, 108, 105, 100, 32, 112, 97, 103, 101, 66, 121, 116, 101, 115, 32, 40, 37, 100, 41, 32, 118, 97, 108, 117, 101, 44, 32, 105, 116, 32, 109, 117, 115, 116, 32, 98, 101, 32, 103, 114, 101, 97, 116, 101, 114, 32, 116, 104, 97, 110, 32, 48])), (Value.slice (some ⟨b7_, 0, none⟩) 1 1)]) rfl rfl cb112 (Calls.into (n := 10) (al := [(Value.bool true), (Value.string (ByteArray.mk #[105, 110, 118, 97, 108, 105, 100, 32, 112, 97, 103, 101, 66, 121, 116, 101, 115, 32, 40, 37, 100, 41, 32, 118, 97, 108, 117, 101, 44, 32, 105, 116, 32, 109, 117, 115, 116, 32, 98, 101, 32, 103, 114, 101, 97, 116, 101, 114, 32, 116, 104, 97, 110, 32, 48])), (Value.slice (some ⟨b7_, 0, none⟩) 1 1)]) Try.func112 rfl Try.ntmps112 rfl rfl ?_))
    refine C_seq (fun K12_ hK12_ => ?_)
    refine C_reg ?_
    refine S_list (T_val (v := (Value.bool true)) (x_move rfl) ?_)
    refine S_list (T_val (v := (Value.bool false)) (x_cast (x_not (b := true) rfl) rfl) ?_)
    refine wpList_nil ?_
    refine (X_then (hK12_ _ _ ?_))
    clear hK12_
    refine C_condF rfl ?_
    refine C_skip ?_
    refine R_0 rfl ⟨_, rfl, ?_⟩
    refine wpList_nil ?_
    refine (X_then (hK6_ _ _ ?_))
    clear hK6_
    refine C_seq (fun K13_ hK13_ => ?_)
    refine C_reg ?_
    refine S_list (T_val (v := (Value.iface 95 (Value.pointer (some ⟨pg, 0, none⟩)))) (x_move rfl) ?_)
    refine S_list (T_val (v := (Value.int .i64 (po : Int))) (x_move rfl) ?_)
    refine S_list (T_val (v := (Value.int .i64 4096)) (x_move rfl) ?_)
    refine S_list (T_val (v := (Value.int .i64 4096)) (x_move rfl) ?_)
    refine S_list (T_val (v := (Value.int .i64 135168)) (x_bin rfl rfl (by rfl)) ?_)
    refine S_list (T_makeSlice1 (len := 135168) (cap := 135168) rfl rfl Try.underlying43 z5 rfl (by omega) (by omega) (by omega) (by omega) (by omega) H9_ ?_)
    intro b14_ w15_ S17_ H16_
    replace H16_ : Holds w15_ (cl b14_ 5 (List.replicate 135168 (Value.int .u8 0)) :: cl b7_ 3 [(Value.int .i64 4096)] :: ro R :: F) := H16_
    have S18_ := Same.trans S11_ S17_
    refine S_list (T_val (v := (Value.agg #[(Value.iface 95 (Value.pointer (some ⟨pg, 0, none⟩))), (Value.int .i64 (po : Int)), (Value.int .i64 4096), (Value.int .i64 0), (Value.slice (some ⟨b14_, 0, none⟩) 135168 135168), (Value.int .i64 131072)])) (by kernel_rfl) ?_)
    refine S_list (T_box (v := (Value.agg #[(Value.iface 95 (Value.pointer (some ⟨pg, 0, none⟩))), (Value.int .i64 (po : Int)), (Value.int .i64 4096), (Value.int .i64 0), (Value.slice (some ⟨b14_, 0, none⟩) 135168 135168), (Value.int .i64 131072)])) rfl H16_ ?_)
    intro b19_ w20_ S22_ H21_
    replace H21_ : Holds w20_ (cl b19_ 255 [(Value.iface 95 (Value.pointer (some ⟨pg, 0, none⟩))), (Value.int .i64 (po : Int)), (Value.int .i64 4096), (Value.int .i64 0), (Value.slice (some ⟨b14_, 0, none⟩) 135168 135168), (Value.int .i64 131072)] :: cl b14_ 5 (List.replicate 135168 (Value.int .u8 0)) :: cl b7_ 3 [(Value.int .i64 4096)] :: ro R :: F) := H21_
    have S23_ := Same.trans S18_ S22_
    refine S_list (T_val (v := (Value.pointer (some ⟨b19_, 0, none⟩))) (x_assign rfl) ?_)
    refine wpList_nil ?_
    refine (X_then (hK13_ _ _ ?_))
    clear hK13_
    refine C_ret ?_
    refine R_any (v := (Value.pointer (some ⟨b19_, 0, none⟩))) (run_results1 rfl rfl) ⟨_, rfl, ?_⟩
    refine ⟨((Holds.ro_at H21_ 3 rfl)), ?_⟩
    refine A_ready (i := 4) (rs := [5]) (by kernel_rfl) ?_
    refine AllR.cons ?_ ?_
    · skip
      refine A_op (ls' := #[true, true, true, true, true, false, false, false, false]) rfl (by kernel_rfl) (T_callW (al := [(Value.int .u32 n)]) rfl rfl cb99 (Calls.into (n := 6) (al := [(Value.int .u32 n)]) Try.func99 rfl Try.ntmps99 rfl rfl ?_))
      refine C_seq (fun K24_ hK24_ => ?_)
      refine C_reg ?_
      refine S_list (T_val (v := (Value.pointer none)) (x_assign rfl) ?_)
      refine wpList_nil ?_
      refine (X_then (hK24_ _ _ ?_))
      clear hK24_
      refine C_seq (fun K25_ hK25_ => ?_)
      refine C_reg ?_
      refine S_list (T_val (v := (Value.int .u32 n)) (x_move rfl) ?_)
      refine S_list (T_val (v := (Value.agg #[(Value.int .u32 n)])) (by kernel_rfl) ?_)
      refine S_list (T_box (v := (Value.agg #[(Value.int .u32 n)])) rfl H21_ ?_)
      intro b26_ w27_ S29_ H28_
      replace H28_ : Holds w27_ (cl b26_ 244 [(Value.int .u32 n)] :: cl b19_ 255 [(Value.iface 95 (Value.pointer (some ⟨pg, 0, none⟩))), (Value.int .i64 (po : Int)), (Value.int .i64 4096), (Value.int .i64 0), (Value.slice (some ⟨b14_, 0, none⟩) 135168 135168), (Value.int .i64 131072)] :: cl b14_ 5 (List.replicate 135168 (Value.int .u8 0)) :: cl b7_ 3 [(Value.int .i64 4096)] :: ro R :: F) := H28_
      have S30_ := Same.trans S23_ S29_
      refine S_list (T_val (v := (Value.pointer (some ⟨b26_, 0, none⟩))) (x_assign rfl) ?_)
      refine wpList_nil ?_
      refine (X_then (hK25_ _ _ ?_))
      clear hK25_
      refine C_ret ?_
      refine R_any (v := (Value.pointer (some ⟨b26_, 0, none⟩))) (run_results1 rfl rfl) ⟨_, rfl, ?_⟩
      refine ⟨((Holds.ro_at H28_ 4 rfl)), ?_⟩
      refine A_ready (i := 5) (rs := []) (by kernel_rfl) ?_
      refine AllR.cons ?_ AllR.nil
      refine A_op (ls' := #[true, true, true, true, true, true, false, false, false]) rfl (by kernel_rfl) (T_makeSlice1 (len := 8) (cap := 8) rfl rfl Try.underlying43 z5 rfl (by omega) (by omega) (by omega) (by omega) (by omega) H28_ ?_)
      intro b31_ w32_ S34_ H33_
      replace H33_ : Holds w32_ (cl b31_ 5 (List.replicate 8 (Value.int .u8 0)) :: cl b26_ 244 [(Value.int .u32 n)] :: cl b19_ 255 [(Value.iface 95 (Value.pointer (some ⟨pg, 0, none⟩))), (Value.int .i64 (po : Int)), (Value.int .i64 4096), (Value.int .i64 0), (Value.slice (some ⟨b14_, 0, none⟩) 135168 135168), (Value.int .i64 131072)] :: cl b14_ 5 (List.replicate 135168 (Value.int .u8 0)) :: cl b7_ 3 [(Value.int .i64 4096)] :: ro R :: F) := H33_
      have S35_ := Same.trans S30_ S34_
      refine ⟨((Holds.ro_at H33_ 5 rfl)), ?_⟩
      have hq36_ := ((Holds.ro_at H33_ 5 rfl))
      refine A_tk 6 (v := (Value.agg #[(Value.pointer (some ⟨b19_, 0, none⟩)), (Value.pointer (some ⟨b26_, 0, none⟩)), (Value.slice (some ⟨b31_, 0, none⟩) 8 8)])) rfl (by kernel_rfl) (fun w hS => by kernel_rfl) hq36_ ?_
      refine A_ready (i := 7) (rs := []) (by kernel_rfl) ?_
      refine AllR.cons ?_ AllR.nil
      refine A_op (ls' := #[true, true, true, true, true, true, true, true, false]) rfl (by kernel_rfl) (T_box (v := (Value.agg #[(Value.pointer (some ⟨b19_, 0, none⟩)), (Value.pointer (some ⟨b26_, 0, none⟩)), (Value.slice (some ⟨b31_, 0, none⟩) 8 8)])) rfl H33_ ?_)
      intro b37_ w38_ S40_ H39_
      replace H39_ : Holds w38_ (cl b37_ 216 [(Value.pointer (some ⟨b19_, 0, none⟩)), (Value.pointer (some ⟨b26_, 0, none⟩)), (Value.slice (some ⟨b31_, 0, none⟩) 8 8)] :: cl b31_ 5 (List.replicate 8 (Value.int .u8 0)) :: cl b26_ 244 [(Value.int .u32 n)] :: cl b19_ 255 [(Value.iface 95 (Value.pointer (some ⟨pg, 0, none⟩))), (Value.int .i64 (po : Int)), (Value.int .i64 4096), (Value.int .i64 0), (Value.slice (some ⟨b14_, 0, none⟩) 135168 135168), (Value.int .i64 131072)] :: cl b14_ 5 (List.replicate 135168 (Value.int .u8 0)) :: cl b7_ 3 [(Value.int .i64 4096)] :: ro R :: F) := H39_
      have S41_ := Same.trans S35_ S40_
      refine ⟨((Holds.ro_at H39_ 6 rfl)), ?_⟩
      have hq42_ := ((Holds.ro_at H39_ 6 rfl))
      refine A_tk 8 (v := (Value.pointer (some ⟨b37_, 0, none⟩))) rfl (by kernel_rfl) (fun w hS => x_assign rfl) hq42_ ?_
      refine A_done (by kernel_rfl) ?_
      refine (X_then (hK2_ _ _ ?_))
      clear hK2_
      refine C_ret ?_
      refine R_any (v := (Value.pointer (some ⟨b37_, 0, none⟩))) (run_results1 rfl rfl) ?_
      have H43_ : Holds w38_ (cl b37_ 216 [(Value.pointer (some ⟨b19_, 0, none⟩)), (Value.pointer (some ⟨b26_, 0, none⟩)), (Value.slice (some ⟨b31_, 0, none⟩) 8 8)] :: cl b31_ 5 [(Value.int .u8 0), (Value.int .u8 0), (Value.int .u8 0), (Value.int .u8 0), (Value.int .u8 0), (Value.int .u8 0), (Value.int .u8 0), (Value.int .u8 0)] :: cl b26_ 244 [(Value.int .u32 n)] :: cl b19_ 255 [(Value.iface 95 (Value.pointer (some ⟨pg, 0, none⟩))), (Value.int .i64 (po : Int)), (Value.int .i64 4096), (Value.int .i64 0), (Value.slice (some ⟨b14_, 0, none⟩) 135168 135168), (Value.int .i64 131072)] :: cl b14_ 5 (List.replicate 135168 (Value.int .u8 0)) :: cl b7_ 3 [(Value.int .i64 4096)] :: ro R :: F) := cast1 (P := fun (c__ : List Value) => Holds w38_ (cl b37_ 216 [(Value.pointer (some ⟨b19_, 0, none⟩)), (Value.pointer (some ⟨b26_, 0, none⟩)), (Value.slice (some ⟨b31_, 0, none⟩) 8 8)] :: cl b31_ 5 c__ :: cl b26_ 244 [(Value.int .u32 n)] :: cl b19_ 255 [(Value.iface 95 (Value.pointer (some ⟨pg, 0, none⟩))), (Value.int .i64 (po : Int)), (Value.int .i64 4096), (Value.int .i64 0), (Value.slice (some ⟨b14_, 0, none⟩) 135168 135168), (Value.int .i64 131072)] :: cl b14_ 5 (List.replicate 135168 (Value.int .u8 0)) :: cl b7_ 3 [(Value.int .i64 4096)] :: ro R :: F)) (rfl : List.replicate 8 (Value.int .u8 0) = [(Value.int .u8 0), (Value.int .u8 0), (Value.int .u8 0), (Value.int .u8 0), (Value.int .u8 0), (Value.int .u8 0), (Value.int .u8 0), (Value.int .u8 0)]) H39_
      have H44_ : Holds w38_ (cl b37_ 216 [(Value.pointer (some ⟨b19_, 0, none⟩)), (Value.pointer (some ⟨b26_, 0, none⟩)), (Value.slice (some ⟨b31_, 0, none⟩) 8 8)] :: cl b31_ 5 [(Value.int .u8 0), (Value.int .u8 0), (Value.int .u8 0), (Value.int .u8 0), (Value.int .u8 0), (Value.int .u8 0), (Value.int .u8 0), (Value.int .u8 0)] :: cl b26_ 244 [(Value.int .u32 n)] :: cl b19_ 255 [(Value.iface 95 (Value.pointer (some ⟨pg, 0, none⟩))), (Value.int .i64 (po : Int)), (Value.int .i64 4096), (Value.int .i64 0), (Value.slice (some ⟨b14_, 0, none⟩) 135168 135168), (Value.int .i64 131072)] :: cl b14_ 5 (bytesV ([] : List Int) ++ List.replicate 135168 (Value.int .u8 0)) :: cl b7_ 3 [(Value.int .i64 4096)] :: ro R :: F) := cast1 (P := fun (c__ : List Value) => Holds w38_ (cl b37_ 216 [(Value.pointer (some ⟨b19_, 0, none⟩)), (Value.pointer (some ⟨b26_, 0, none⟩)), (Value.slice (some ⟨b31_, 0, none⟩) 8 8)] :: cl b31_ 5 [(Value.int .u8 0), (Value.int .u8 0), (Value.int .u8 0), (Value.int .u8 0), (Value.int .u8 0), (Value.int .u8 0), (Value.int .u8 0), (Value.int .u8 0)] :: cl b26_ 244 [(Value.int .u32 n)] :: cl b19_ 255 [(Value.iface 95 (Value.pointer (some ⟨pg, 0, none⟩))), (Value.int .i64 (po : Int)), (Value.int .i64 4096), (Value.int .i64 0), (Value.slice (some ⟨b14_, 0, none⟩) 135168 135168), (Value.int .i64 131072)] :: cl b14_ 5 c__ :: cl b7_ 3 [(Value.int .i64 4096)] :: ro R :: F)) (rfl : List.replicate 135168 (Value.int .u8 0) = bytesV ([] : List Int) ++ List.replicate 135168 (Value.int .u8 0)) H43_
      have H45_ : Holds w38_ (ro R :: cl b37_ 216 [(Value.pointer (some ⟨b19_, 0, none⟩)), (Value.pointer (some ⟨b26_, 0, none⟩)), (Value.slice (some ⟨b31_, 0, none⟩) 8 8)] :: cl b26_ 244 [(Value.int .u32 n)] :: cl b31_ 5 [(Value.int .u8 0), (Value.int .u8 0), (Value.int .u8 0), (Value.int .u8 0), (Value.int .u8 0), (Value.int .u8 0), (Value.int .u8 0), (Value.int .u8 0)] :: cl b19_ 255 [(Value.iface 95 (Value.pointer (some ⟨pg, 0, none⟩))), (Value.int .i64 (po : Int)), (Value.int .i64 4096), (Value.int .i64 0), (Value.slice (some ⟨b14_, 0, none⟩) 135168 135168), (Value.int .i64 131072)] :: cl b14_ 5 (bytesV ([] : List Int) ++ List.replicate 135168 (Value.int .u8 0)) :: F) := (Holds.erase (Holds.bring (Holds.bring (Holds.bring (Holds.bring (Holds.bring (Holds.bring H44_ 4 rfl) 4 rfl) 3 rfl) 4 rfl) 4 rfl) 6 rfl) 6)
      exact ⟨_, [cl b37_ 216 [(Value.pointer (some ⟨b19_, 0, none⟩)), (Value.pointer (some ⟨b26_, 0, none⟩)), (Value.slice (some ⟨b31_, 0, none⟩) 8 8)], cl b26_ 244 [(Value.int .u32 n)], cl b31_ 5 [(Value.int .u8 0), (Value.int .u8 0), (Value.int .u8 0), (Value.int .u8 0), (Value.int .u8 0), (Value.int .u8 0), (Value.int .u8 0), (Value.int .u8 0)], cl b19_ 255 [(Value.iface 95 (Value.pointer (some ⟨pg, 0, none⟩))), (Value.int .i64 (po : Int)), (Value.int .i64 4096), (Value.int .i64 0), (Value.slice (some ⟨b14_, 0, none⟩) 135168 135168), (Value.int .i64 131072)], cl b14_ 5 (bytesV ([] : List Int) ++ List.replicate 135168 (Value.int .u8 0))], rfl, ⟨b37_, b19_, b26_, b31_, b14_, rfl, rfl⟩, S41_, H45_⟩
    refine AllR.cons ?_ AllR.nil
    refine A_op (ls' := #[true, true, true, true, false, true, false, false, false]) rfl (by kernel_rfl) (T_makeSlice1 (len := 8) (cap := 8) rfl rfl Try.underlying43 z5 rfl (by omega) (by omega) (by omega) (by omega) (by omega) H21_ ?_)
    intro b46_ w47_ S49_ H48_
    replace H48_ : Holds w47_ (cl b46_ 5 (List.replicate 8 (Value.int .u8 0)) :: cl b19_ 255 [(Value.iface 95 (Value.pointer (some ⟨pg, 0, none⟩))), (Value.int .i64 (po : Int)), (Value.int .i64 4096), (Value.int .i64 0), (Value.slice (some ⟨b14_, 0, none⟩) 135168 135168), (Value.int .i64 131072)] :: cl b14_ 5 (List.replicate 135168 (Value.int .u8 0)) :: cl b7_ 3 [(Value.int .i64 4096)] :: ro R :: F) := H48_
    have S50_ := Same.trans S23_ S49_
    refine ⟨((Holds.ro_at H48_ 4 rfl)), ?_⟩
    refine A_ready (i := 4) (rs := []) (by kernel_rfl) ?_
    refine AllR.cons ?_ AllR.nil
    refine A_op (ls' := #[true, true, true, true, true, true, false, false, false]) rfl (by kernel_rfl) (T_callW (al := [(Value.int .u32 n)]) rfl rfl cb99 (Calls.into (n := 6) (al := [(Value.int .u32 n)]) Try.func99 rfl Try.ntmps99 rfl rfl ?_))
    refine C_seq (fun K51_ hK51_ => ?_)
    refine C_reg ?_
    refine S_list (T_val (v := (Value.pointer none)) (x_assign rfl) ?_)
    refine wpList_nil ?_
    refine (X_then (hK51_ _ _ ?_))
    clear hK51_
    refine C_seq (fun K52_ hK52_ => ?_)
    refine C_reg ?_
    refine S_list (T_val (v := (Value.int .u32 n)) (x_move rfl) ?_)
    refine S_list (T_val (v := (Value.agg #[(Value.int .u32 n)])) (by kernel_rfl) ?_)
    refine S_list (T_box (v := (Value.agg #[(Value.int .u32 n)])) rfl H48_ ?_)
    intro b53_ w54_ S56_ H55_
    replace H55_ : Holds w54_ (cl b53_ 244 [(Value.int .u32 n)] :: cl b46_ 5 (List.replicate 8 (Value.int .u8 0)) :: cl b19_ 255 [(Value.iface 95 (Value.pointer (some ⟨pg, 0, none⟩))), (Value.int .i64 (po : Int)), (Value.int .i64 4096), (Value.int .i64 0), (Value.slice (some ⟨b14_, 0, none⟩) 135168 135168), (Value.int .i64 131072)] :: cl b14_ 5 (List.replicate 135168 (Value.int .u8 0)) :: cl b7_ 3 [(Value.int .i64 4096)] :: ro R :: F) := H55_
    have S57_ := Same.trans S50_ S56_
    refine S_list (T_val (v := (Value.pointer (some ⟨b53_, 0, none⟩))) (x_assign rfl) ?_)
    refine wpList_nil ?_
    refine (X_then (hK52_ _ _ ?_))
    clear hK52_
    refine C_ret ?_
    refine R_any (v := (Value.pointer (some ⟨b53_, 0, none⟩))) (run_results1 rfl rfl) ⟨_, rfl, ?_⟩
    refine ⟨((Holds.ro_at H55_ 5 rfl)), ?_⟩
    have hq58_ := ((Holds.ro_at H55_ 5 rfl))
    refine A_tk 6 (v := (Value.agg #[(Value.pointer (some ⟨b19_, 0, none⟩)), (Value.pointer (some ⟨b53_, 0, none⟩)), (Value.slice (some ⟨b46_, 0, none⟩) 8 8)])) rfl (by kernel_rfl) (fun w hS => by kernel_rfl) hq58_ ?_
    refine A_ready (i := 7) (rs := []) (by kernel_rfl) ?_
    refine AllR.cons ?_ AllR.nil
    refine A_op (ls' := #[true, true, true, true, true, true, true, true, false]) rfl (by kernel_rfl) (T_box (v := (Value.agg #[(Value.pointer (some ⟨b19_, 0, none⟩)), (Value.pointer (some ⟨b53_, 0, none⟩)), (Value.slice (some ⟨b46_, 0, none⟩) 8 8)])) rfl H55_ ?_)
    intro b59_ w60_ S62_ H61_
    replace H61_ : Holds w60_ (cl b59_ 216 [(Value.pointer (some ⟨b19_, 0, none⟩)), (Value.pointer (some ⟨b53_, 0, none⟩)), (Value.slice (some ⟨b46_, 0, none⟩) 8 8)] :: cl b53_ 244 [(Value.int .u32 n)] :: cl b46_ 5 (List.replicate 8 (Value.int .u8 0)) :: cl b19_ 255 [(Value.iface 95 (Value.pointer (some ⟨pg, 0, none⟩))), (Value.int .i64 (po : Int)), (Value.int .i64 4096), (Value.int .i64 0), (Value.slice (some ⟨b14_, 0, none⟩) 135168 135168), (Value.int .i64 131072)] :: cl b14_ 5 (List.replicate 135168 (Value.int .u8 0)) :: cl b7_ 3 [(Value.int .i64 4096)] :: ro R :: F) := H61_
    have S63_ := Same.trans S57_ S62_
    refine ⟨((Holds.ro_at H61_ 6 rfl)), ?_⟩
    have hq64_ := ((Holds.ro_at H61_ 6 rfl))
    refine A_tk 8 (v := (Value.pointer (some ⟨b59_, 0, none⟩))) rfl (by kernel_rfl) (fun w hS => x_assign rfl) hq64_ ?_
    refine A_done (by kernel_rfl) ?_
    refine (X_then (hK2_ _ _ ?_))
    clear hK2_
    refine C_ret ?_
    refine R_any (v := (Value.pointer (some ⟨b59_, 0, none⟩))) (run_results1 rfl rfl) ?_
    have H65_ : Holds w60_ (cl b59_ 216 [(Value.pointer (some ⟨b19_, 0, none⟩)), (Value.pointer (some ⟨b53_, 0, none⟩)), (Value.slice (some ⟨b46_, 0, none⟩) 8 8)] :: cl b53_ 244 [(Value.int .u32 n)] :: cl b46_ 5 [(Value.int .u8 0), (Value.int .u8 0), (Value.int .u8 0), (Value.int .u8 0), (Value.int .u8 0), (Value.int .u8 0), (Value.int .u8 0), (Value.int .u8 0)] :: cl b19_ 255 [(Value.iface 95 (Value.pointer (some ⟨pg, 0, none⟩))), (Value.int .i64 (po : Int)), (Value.int .i64 4096), (Value.int .i64 0), (Value.slice (some ⟨b14_, 0, none⟩) 135168 135168), (Value.int .i64 131072)] :: cl b14_ 5 (List.replicate 135168 (Value.int .u8 0)) :: cl b7_ 3 [(Value.int .i64 4096)] :: ro R :: F) := cast1 (P := fun (c__ : List Value) => Holds w60_ (cl b59_ 216 [(Value.pointer (some ⟨b19_, 0, none⟩)), (Value.pointer (some ⟨b53_, 0, none⟩)), (Value.slice (some ⟨b46_, 0, none⟩) 8 8)] :: cl b53_ 244 [(Value.int .u32 n)] :: cl b46_ 5 c__ :: cl b19_ 255 [(Value.iface 95 (Value.pointer (some ⟨pg, 0, none⟩))), (Value.int .i64 (po : Int)), (Value.int .i64 4096), (Value.int .i64 0), (Value.slice (some ⟨b14_, 0, none⟩) 135168 135168), (Value.int .i64 131072)] :: cl b14_ 5 (List.replicate 135168 (Value.int .u8 0)) :: cl b7_ 3 [(Value.int .i64 4096)] :: ro R :: F)) (rfl : List.replicate 8 (Value.int .u8 0) = [(Value.int .u8 0), (Value.int .u8 0), (Value.int .u8 0), (Value.int .u8 0), (Value.int .u8 0), (Value.int .u8 0), (Value.int .u8 0), (Value.int .u8 0)]) H61_
    have H66_ : Holds w60_ (cl b59_ 216 [(Value.pointer (some ⟨b19_, 0, none⟩)), (Value.pointer (some ⟨b53_, 0, none⟩)), (Value.slice (some ⟨b46_, 0, none⟩) 8 8)] :: cl b53_ 244 [(Value.int .u32 n)] :: cl b46_ 5 [(Value.int .u8 0), (Value.int .u8 0), (Value.int .u8 0), (Value.int .u8 0), (Value.int .u8 0), (Value.int .u8 0), (Value.int .u8 0), (Value.int .u8 0)] :: cl b19_ 255 [(Value.iface 95 (Value.pointer (some ⟨pg, 0, none⟩))), (Value.int .i64 (po : Int)), (Value.int .i64 4096), (Value.int .i64 0), (Value.slice (some ⟨b14_, 0, none⟩) 135168 135168), (Value.int .i64 131072)] :: cl b14_ 5 (bytesV ([] : List Int) ++ List.replicate 135168 (Value.int .u8 0)) :: cl b7_ 3 [(Value.int .i64 4096)] :: ro R :: F) := cast1 (P := fun (c__ : List Value) => Holds w60_ (cl b59_ 216 [(Value.pointer (some ⟨b19_, 0, none⟩)), (Value.pointer (some ⟨b53_, 0, none⟩)), (Value.slice (some ⟨b46_, 0, none⟩) 8 8)] :: cl b53_ 244 [(Value.int .u32 n)] :: cl b46_ 5 [(Value.int .u8 0), (Value.int .u8 0), (Value.int .u8 0), (Value.int .u8 0), (Value.int .u8 0), (Value.int .u8 0), (Value.int .u8 0), (Value.int .u8 0)] :: cl b19_ 255 [(Value.iface 95 (Value.pointer (some ⟨pg, 0, none⟩))), (Value.int .i64 (po : Int)), (Value.int .i64 4096), (Value.int .i64 0), (Value.slice (some ⟨b14_, 0, none⟩) 135168 135168), (Value.int .i64 131072)] :: cl b14_ 5 c__ :: cl b7_ 3 [(Value.int .i64 4096)] :: ro R :: F)) (rfl : List.replicate 135168 (Value.int .u8 0) = bytesV ([] : List Int) ++ List.replicate 135168 (Value.int .u8 0)) H65_
    have H67_ : Holds w60_ (ro R :: cl b59_ 216 [(Value.pointer (some ⟨b19_, 0, none⟩)), (Value.pointer (some ⟨b53_, 0, none⟩)), (Value.slice (some ⟨b46_, 0, none⟩) 8 8)] :: cl b53_ 244 [(Value.int .u32 n)] :: cl b46_ 5 [(Value.int .u8 0), (Value.int .u8 0), (Value.int .u8 0), (Value.int .u8 0), (Value.int .u8 0), (Value.int .u8 0), (Value.int .u8 0), (Value.int .u8 0)] :: cl b19_ 255 [(Value.iface 95 (Value.pointer (some ⟨pg, 0, none⟩))), (Value.int .i64 (po : Int)), (Value.int .i64 4096), (Value.int .i64 0), (Value.slice (some ⟨b14_, 0, none⟩) 135168 135168), (Value.int .i64 131072)] :: cl b14_ 5 (bytesV ([] : List Int) ++ List.replicate 135168 (Value.int .u8 0)) :: F) := (Holds.erase (Holds.bring (Holds.bring (Holds.bring (Holds.bring (Holds.bring (Holds.bring H66_ 4 rfl) 4 rfl) 4 rfl) 4 rfl) 4 rfl) 6 rfl) 6)
    exact ⟨_, [cl b59_ 216 [(Value.pointer (some ⟨b19_, 0, none⟩)), (Value.pointer (some ⟨b53_, 0, none⟩)), (Value.slice (some ⟨b46_, 0, none⟩) 8 8)], cl b53_ 244 [(Value.int .u32 n)], cl b46_ 5 [(Value.int .u8 0), (Value.int .u8 0), (Value.int .u8 0), (Value.int .u8 0), (Value.int .u8 0), (Value.int .u8 0), (Value.int .u8 0), (Value.int .u8 0)], cl b19_ 255 [(Value.iface 95 (Value.pointer (some ⟨pg, 0, none⟩))), (Value.int .i64 (po : Int)), (Value.int .i64 4096), (Value.int .i64 0), (Value.slice (some ⟨b14_, 0, none⟩) 135168 135168), (Value.int .i64 131072)], cl b14_ 5 (bytesV ([] : List Int) ++ List.replicate 135168 (Value.int .u8 0))], rfl, ⟨b59_, b19_, b53_, b46_, b14_, rfl, rfl⟩, S63_, H67_⟩
  refine AllR.cons ?_ AllR.nil
  refine A_op (ls' := #[true, true, false, true, false, true, false, false, false]) rfl (by kernel_rfl) (T_makeSlice1 (len := 8) (cap := 8) rfl rfl Try.underlying43 z5 rfl (by omega) (by omega) (by omega) (by omega) (by omega) H3_ ?_)
  intro b68_ w69_ S71_ H70_
  replace H70_ : Holds w69_ (cl b68_ 5 (List.replicate 8 (Value.int .u8 0)) :: ro R :: F) := H70_
  have S72_ := Same.trans (Same.trans (Same.refl w) (Same.drew _)) S71_
  refine ⟨((Holds.ro_at H70_ 1 rfl)), ?_⟩
  refine A_ready (i := 2) (rs := []) (by kernel_rfl) ?_
  refine AllR.cons ?_ AllR.nil
  refine A_op (ls' := #[true, true, true, true, false, true, false, false, false]) rfl (by kernel_rfl) (T_callW (al := [(Value.iface 95 (Value.pointer (some ⟨pg, 0, none⟩))), (Value.int .i64 4096), (Value.int .i64 (po : Int))]) rfl rfl cb98 (Calls.into (n := 20) (al := [(Value.iface 95 (Value.pointer (some ⟨pg, 0, none⟩))), (Value.int .i64 4096), (Value.int .i64 (po : Int))]) Try.func98 rfl Try.ntmps98 rfl rfl ?_))
  refine C_seq (fun K73_ hK73_ => ?_)
  refine C_reg ?_
  refine S_list (T_val (v := (Value.pointer none)) (x_assign rfl) ?_)
  refine wpList_nil ?_
  refine (X_then (hK73_ _ _ ?_))
  clear hK73_
  refine C_seq (fun K74_ hK74_ => ?_)
  refine C_reg ?_
  refine S_list (T_val (v := (Value.int .i64 4096)) (x_move rfl) ?_)
  refine S_list (T_val (v := (Value.bool true)) (x_bin rfl rfl rfl) ?_)
  refine S_list (T_val (v := (Value.int .i64 4096)) (x_move rfl) ?_)
  refine S_list (T_new (obj := .cells #[(Value.int .i64 4096)] 3) (f := fun b__ => .slice (some ⟨b__, 0, none⟩) 1 1) (A := fun b__ => cl b__ 3 [(Value.int .i64 4096)]) (by kernel_rfl) (fun l h => h.alloc _ _) H70_ ?_)
  intro b75_ w76_ S78_ H77_
  replace H77_ : Holds w76_ (cl b75_ 3 [(Value.int .i64 4096)] :: cl b68_ 5 (List.replicate 8 (Value.int .u8 0)) :: ro R :: F) := H77_
  have S79_ := Same.trans S72_ S78_
  refine S_list (T_callW (al := [(Value.bool true), (Value.string (ByteArray.mk #[105, 110, 118, 97, 108, 105, 100, 32, 112, 97, 103, 101, 66, 121, 116, 101, 115, 32, 40, 37, 100, 41, 32, 118, 97, 108, 117, 101, 44, 32, 105, 116, 32, 109, 117, 115, 116, 32, 98, 101, 32, 103, 114, 101, 97, 116, 101, 114, 32, 116, 104, 97, 110, 32, 48])), (Value.slice (some ⟨b75_, 0, none⟩) 1 1)]) rfl rfl cb112 (Calls.into (n := 10) (al := [(Value.bool true), (Value.string (ByteArray.mk #[105, 110, 118, 97, 108, 105, 100, 32, 112, 97, 103, 101, 66, 121, 116, 101, 115, 32, 40, 37, 100, 41, 32, 118, 97, 108, 117, 101, 44, 32, 105, 116, 32, 109, 117, 115, 116, 32, 98, 101, 32, 103, 114, 101, 97, 116, 101, 114, 32, 116, 104, 97, 110, 32, 48])), (Value.slice (some ⟨b75_, 0, none⟩) 1 1)]) Try.func112 rfl Try.ntmps112 rfl rfl ?_))
  refine C_seq (fun K80_ hK80_ => ?_)
  refine C_reg ?_
  refine S_list (T_val (v := (Value.bool true)) (x_move rfl) ?_)
  refine S_list (T_val (v := (Value.bool false)) (x_cast (x_not (b := true) rfl) rfl) ?_)
  refine wpList_nil ?_
  refine (X_then (hK80_ _ _ ?_))
  clear hK80_
  refine C_condF rfl ?_
  refine C_skip ?_
  refine R_0 rfl ⟨_, rfl, ?_⟩
  refine wpList_nil ?_
  refine (X_then (hK74_ _ _ ?_))
  clear hK74_
  refine C_seq (fun K81_ hK81_ => ?_)
  refine C_reg ?_
  refine S_list (T_val (v := (Value.iface 95 (Value.pointer (some ⟨pg, 0, none⟩)))) (x_move rfl) ?_)
  refine S_list (T_val (v := (Value.int .i64 (po : Int))) (x_move rfl) ?_)
  refine S_list (T_val (v := (Value.int .i64 4096)) (x_move rfl) ?_)
  refine S_list (T_val (v := (Value.int .i64 4096)) (x_move rfl) ?_)
  refine S_list (T_val (v := (Value.int .i64 135168)) (x_bin rfl rfl (by rfl)) ?_)
  refine S_list (T_makeSlice1 (len := 135168) (cap := 135168) rfl rfl Try.underlying43 z5 rfl (by omega) (by omega) (by omega) (by omega) (by omega) H77_ ?_)
  intro b82_ w83_ S85_ H84_
  replace H84_ : Holds w83_ (cl b82_ 5 (List.replicate 135168 (Value.int .u8 0)) :: cl b75_ 3 [(Value.int .i64 4096)] :: cl b68_ 5 (List.replicate 8 (Value.int .u8 0)) :: ro R :: F) := H84_
  have S86_ := Same.trans S79_ S85_
  refine S_list (T_val (v := (Value.agg #[(Value.iface 95 (Value.pointer (some ⟨pg, 0, none⟩))), (Value.int .i64 (po : Int)), (Value.int .i64 4096), (Value.int .i64 0), (Value.slice (some ⟨b82_, 0, none⟩) 135168 135168), (Value.int .i64 131072)])) (by kernel_rfl) ?_)
  refine S_list (T_box (v := (Value.agg #[(Value.iface 95 (Value.pointer (some ⟨pg, 0, none⟩))), (Value.int .i64 (po : Int)), (Value.int .i64 4096), (Value.int .i64 0), (Value.slice (some ⟨b82_, 0, none⟩) 135168 135168), (Value.int .i64 131072)])) rfl H84_ ?_)
  intro b87_ w88_ S90_ H89_
  replace H89_ : Holds w88_ (cl b87_ 255 [(Value.iface 95 (Value.pointer (some ⟨pg, 0, none⟩))), (Value.int .i64 (po : Int)), (Value.int .i64 4096), (Value.int .i64 0), (Value.slice (some ⟨b82_, 0, none⟩) 135168 135168), (Value.int .i64 131072)] :: cl b82_ 5 (List.replicate 135168 (Value.int .u8 0)) :: cl b75_ 3 [(Value.int .i64 4096)] :: cl b68_ 5 (List.replicate 8 (Value.int .u8 0)) :: ro R :: F) := H89_
  have S91_ := Same.trans S86_ S90_
  refine S_list (T_val (v := (Value.pointer (some ⟨b87_, 0, none⟩))) (x_assign rfl) ?_)
  refine wpList_nil ?_
  refine (X_then (hK81_ _ _ ?_))
  clear hK81_
  refine C_ret ?_
  refine R_any (v := (Value.pointer (some ⟨b87_, 0, none⟩))) (run_results1 rfl rfl) ⟨_, rfl, ?_⟩
  refine ⟨((Holds.ro_at H89_ 4 rfl)), ?_⟩
  refine A_ready (i := 4) (rs := []) (by kernel_rfl) ?_
  refine AllR.cons ?_ AllR.nil
  refine A_op (ls' := #[true, true, true, true, true, true, false, false, false]) rfl (by kernel_rfl) (T_callW (al := [(Value.int .u32 n)]) rfl rfl cb99 (Calls.into (n := 6) (al := [(Value.int .u32 n)]) Try.func99 rfl Try.ntmps99 rfl rfl ?_))
  refine C_seq (fun K92_ hK92_ => ?_)
  refine C_reg ?_
  refine S_list (T_val (v := (Value.pointer none)) (x_assign rfl) ?_)
  refine wpList_nil ?_
  refine (X_then (hK92_ _ _ ?_))
  clear hK92_
  refine C_seq (fun K93_ hK93_ => ?_)
  refine C_reg ?_
  refine S_list (T_val (v := (Value.int .u32 n)) (x_move rfl) ?_)
  refine S_list (T_val (v := (Value.agg #[(Value.int .u32 n)])) (by kernel_rfl) ?_)
  refine S_list (T_box (v := (Value.agg #[(Value.int .u32 n)])) rfl H89_ ?_)
  intro b94_ w95_ S97_ H96_
  replace H96_ : Holds w95_ (cl b94_ 244 [(Value.int .u32 n)] :: cl b87_ 255 [(Value.iface 95 (Value.pointer (some ⟨pg, 0, none⟩))), (Value.int .i64 (po : Int)), (Value.int .i64 4096), (Value.int .i64 0), (Value.slice (some ⟨b82_, 0, none⟩) 135168 135168), (Value.int .i64 131072)] :: cl b82_ 5 (List.replicate 135168 (Value.int .u8 0)) :: cl b75_ 3 [(Value.int .i64 4096)] :: cl b68_ 5 (List.replicate 8 (Value.int .u8 0)) :: ro R :: F) := H96_
  have S98_ := Same.trans S91_ S97_
  refine S_list (T_val (v := (Value.pointer (some ⟨b94_, 0, none⟩))) (x_assign rfl) ?_)
  refine wpList_nil ?_
  refine (X_then (hK93_ _ _ ?_))
  clear hK93_
  refine C_ret ?_
  refine R_any (v := (Value.pointer (some ⟨b94_, 0, none⟩))) (run_results1 rfl rfl) ⟨_, rfl, ?_⟩
  refine ⟨((Holds.ro_at H96_ 5 rfl)), ?_⟩
  have hq99_ := ((Holds.ro_at H96_ 5 rfl))
  refine A_tk 6 (v := (Value.agg #[(Value.pointer (some ⟨b87_, 0, none⟩)), (Value.pointer (some ⟨b94_, 0, none⟩)), (Value.slice (some ⟨b68_, 0, none⟩) 8 8)])) rfl (by kernel_rfl) (fun w hS => by kernel_rfl) hq99_ ?_
  refine A_ready (i := 7) (rs := []) (by kernel_rfl) ?_
  refine AllR.cons ?_ AllR.nil
  refine A_op (ls' := #[true, true, true, true, true, true, true, true, false]) rfl (by kernel_rfl) (T_box (v := (Value.agg #[(Value.pointer (some ⟨b87_, 0, none⟩)), (Value.pointer (some ⟨b94_, 0, none⟩)), (Value.slice (some ⟨b68_, 0, none⟩) 8 8)])) rfl H96_ ?_)
  intro b100_ w101_ S103_ H102_
  replace H102_ : Holds w101_ (cl b100_ 216 [(Value.pointer (some ⟨b87_, 0, none⟩)), (Value.pointer (some ⟨b94_, 0, none⟩)), (Value.slice (some ⟨b68_, 0, none⟩) 8 8)] :: cl b94_ 244 [(Value.int .u32 n)] :: cl b87_ 255 [(Value.iface 95 (Value.pointer (some ⟨pg, 0, none⟩))), (Value.int .i64 (po : Int)), (Value.int .i64 4096), (Value.int .i64 0), (Value.slice (some ⟨b82_, 0, none⟩) 135168 135168), (Value.int .i64 131072)] :: cl b82_ 5 (List.replicate 135168 (Value.int .u8 0)) :: cl b75_ 3 [(Value.int .i64 4096)] :: cl b68_ 5 (List.replicate 8 (Value.int .u8 0)) :: ro R :: F) := H102_
  have S104_ := Same.trans S98_ S103_
  refine ⟨((Holds.ro_at H102_ 6 rfl)), ?_⟩
  have hq105_ := ((Holds.ro_at H102_ 6 rfl))
  refine A_tk 8 (v := (Value.pointer (some ⟨b100_, 0, none⟩))) rfl (by kernel_rfl) (fun w hS => x_assign rfl) hq105_ ?_
  refine A_done (by kernel_rfl) ?_
  refine (X_then (hK2_ _ _ ?_))
  clear hK2_
  refine C_ret ?_
  refine R_any (v := (Value.pointer (some ⟨b100_, 0, none⟩))) (run_results1 rfl rfl) ?_
  have H106_ : Holds w101_ (cl b100_ 216 [(Value.pointer (some ⟨b87_, 0, none⟩)), (Value.pointer (some ⟨b94_, 0, none⟩)), (Value.slice (some ⟨b68_, 0, none⟩) 8 8)] :: cl b94_ 244 [(Value.int .u32 n)] :: cl b87_ 255 [(Value.iface 95 (Value.pointer (some ⟨pg, 0, none⟩))), (Value.int .i64 (po : Int)), (Value.int .i64 4096), (Value.int .i64 0), (Value.slice (some ⟨b82_, 0, none⟩) 135168 135168), (Value.int .i64 131072)] :: cl b82_ 5 (List.replicate 135168 (Value.int .u8 0)) :: cl b75_ 3 [(Value.int .i64 4096)] :: cl b68_ 5 [(Value.int .u8 0), (Value.int .u8 0), (Value.int .u8 0), (Value.int .u8 0), (Value.int .u8 0), (Value.int .u8 0), (Value.int .u8 0), (Value.int .u8 0)] :: ro R :: F) := cast1 (P := fun (c__ : List Value) => Holds w101_ (cl b100_ 216 [(Value.pointer (some ⟨b87_, 0, none⟩)), (Value.pointer (some ⟨b94_, 0, none⟩)), (Value.slice (some ⟨b68_, 0, none⟩) 8 8)] :: cl b94_ 244 [(Value.int .u32 n)] :: cl b87_ 255 [(Value.iface 95 (Value.pointer (some ⟨pg, 0, none⟩))), (Value.int .i64 (po : Int)), (Value.int .i64 4096), (Value.int .i64 0), (Value.slice (some ⟨b82_, 0, none⟩) 135168 135168), (Value.int .i64 131072)] :: cl b82_ 5 (List.replicate 135168 (Value.int .u8 0)) :: cl b75_ 3 [(Value.int .i64 4096)] :: cl b68_ 5 c__ :: ro R :: F)) (rfl : List.replicate 8 (Value.int .u8 0) = [(Value.int .u8 0), (Value.int .u8 0), (Value.int .u8 0), (Value.int .u8 0), (Value.int .u8 0), (Value.int .u8 0), (Value.int .u8 0), (Value.int .u8 0)]) H102_
  have H107_ : Holds w101_ (cl b100_ 216 [(Value.pointer (some ⟨b87_, 0, none⟩)), (Value.pointer (some ⟨b94_, 0, none⟩)), (Value.slice (some ⟨b68_, 0, none⟩) 8 8)] :: cl b94_ 244 [(Value.int .u32 n)] :: cl b87_ 255 [(Value.iface 95 (Value.pointer (some ⟨pg, 0, none⟩))), (Value.int .i64 (po : Int)), (Value.int .i64 4096), (Value.int .i64 0), (Value.slice (some ⟨b82_, 0, none⟩) 135168 135168), (Value.int .i64 131072)] :: cl b82_ 5 (bytesV ([] : List Int) ++ List.replicate 135168 (Value.int .u8 0)) :: cl b75_ 3 [(Value.int .i64 4096)] :: cl b68_ 5 [(Value.int .u8 0), (Value.int .u8 0), (Value.int .u8 0), (Value.int .u8 0), (Value.int .u8 0), (Value.int .u8 0), (Value.int .u8 0), (Value.int .u8 0)] :: ro R :: F) := cast1 (P := fun (c__ : List Value) => Holds w101_ (cl b100_ 216 [(Value.pointer (some ⟨b87_, 0, none⟩)), (Value.pointer (some ⟨b94_, 0, none⟩)), (Value.slice (some ⟨b68_, 0, none⟩) 8 8)] :: cl b94_ 244 [(Value.int .u32 n)] :: cl b87_ 255 [(Value.iface 95 (Value.pointer (some ⟨pg, 0, none⟩))), (Value.int .i64 (po : Int)), (Value.int .i64 4096), (Value.int .i64 0), (Value.slice (some ⟨b82_, 0, none⟩) 135168 135168), (Value.int .i64 131072)] :: cl b82_ 5 c__ :: cl b75_ 3 [(Value.int .i64 4096)] :: cl b68_ 5 [(Value.int .u8 0), (Value.int .u8 0), (Value.int .u8 0), (Value.int .u8 0), (Value.int .u8 0), (Value.int .u8 0), (Value.int .u8 0), (Value.int .u8 0)] :: ro R :: F)) (rfl : List.replicate 135168 (Value.int .u8 0) = bytesV ([] : List Int) ++ List.replicate 135168 (Value.int .u8 0)) H106_
  have H108_ : Holds w101_ (ro R :: cl b100_ 216 [(Value.pointer (some ⟨b87_, 0, none⟩)), (Value.pointer (some ⟨b94_, 0, none⟩)), (Value.slice (some ⟨b68_, 0, none⟩) 8 8)] :: cl b94_ 244 [(Value.int .u32 n)] :: cl b68_ 5 [(Value.int .u8 0), (Value.int .u8 0), (Value.int .u8 0), (Value.int .u8 0), (Value.int .u8 0), (Value.int .u8 0), (Value.int .u8 0), (Value.int .u8 0)] :: cl b87_ 255 [(Value.iface 95 (Value.pointer (some ⟨pg, 0, none⟩))), (Value.int .i64 (po : Int)), (Value.int .i64 4096), (Value.int .i64 0), (Value.slice (some ⟨b82_, 0, none⟩) 135168 135168), (Value.int .i64 131072)] :: cl b82_ 5 (bytesV ([] : List Int) ++ List.replicate 135168 (Value.int .u8 0)) :: F) := (Holds.erase (Holds.bring (Holds.bring (Holds.bring (Holds.bring (Holds.bring (Holds.bring H107_ 3 rfl) 3 rfl) 5 rfl) 4 rfl) 4 rfl) 6 rfl) 6)
  exact ⟨_, [cl b100_ 216 [(Value.pointer (some ⟨b87_, 0, none⟩)), (Value.pointer (some ⟨b94_, 0, none⟩)), (Value.slice (some ⟨b68_, 0, none⟩) 8 8)], cl b94_ 244 [(Value.int .u32 n)], cl b68_ 5 [(Value.int .u8 0), (Value.int .u8 0), (Value.int .u8 0), (Value.int .u8 0), (Value.int .u8 0), (Value.int .u8 0), (Value.int .u8 0), (Value.int .u8 0)], cl b87_ 255 [(Value.iface 95 (Value.pointer (some ⟨pg, 0, none⟩))), (Value.int .i64 (po : Int)), (Value.int .i64 4096), (Value.int .i64 0), (Value.slice (some ⟨b82_, 0, none⟩) 135168 135168), (Value.int .i64 131072)], cl b82_ 5 (bytesV ([] : List Int) ++ List.replicate 135168 (Value.int .u8 0))], rfl, ⟨b100_, b87_, b94_, b68_, b82_, rfl, rfl⟩, S104_, H108_⟩

/-! ### Records, one after the other -/

set_option maxHeartbeats 400000 in
theorem wWalWrite (R : HP) (prev : Int) (off : Nat) (rv : Value) (L : List WR) (hL : RS R 6 rv L.length (L.flatMap WR.cells)) (q1 : L.length ≤ 60) (q2 : off ≤ 1048576) (hG : ∀ x ∈ L, Good x) :
    Tri Try.prog 19 #[(Value.int .u32 prev), (Value.int .i64 (off : Int)), rv] R [] (fun v__ post__ => ∃ (v' : Value) (os : List Int), v__ = (Value.tuple #[v', (Value.int .i64 0)]) ∧ post__ = [sl 5 1 v' (List.length os) (bytesV os)] ∧ (os = (wfs prev L).flatten)) := by
  refine Tri.into (n := 70) (al := [(Value.int .u32 prev), (Value.int .i64 (off : Int)), rv]) Try.func19 rfl Try.ntmps19 rfl rfl fun w F H => ?_
  replace H : Holds w (ro R :: F) := H
  refine C_seq (fun K1_ hK1_ => ?_)
  refine C_reg ?_
  refine S_list (T_val (v := (Value.slice none 0 0)) (x_assign rfl) ?_)
  refine S_list (T_val (v := (Value.int .i64 0)) (x_assign rfl) ?_)
  refine wpList_nil ?_
  refine (X_then (hK1_ _ _ ?_))
  clear hK1_
  refine C_seq (fun K2_ hK2_ => ?_)
  refine C_reg ?_
  refine S_list (T_val (v := (Value.agg #[(Value.slice none 0 0)])) (by kernel_rfl) ?_)
  refine S_list (T_box (v := (Value.agg #[(Value.slice none 0 0)])) rfl H ?_)
  intro b3_ w4_ S6_ H5_
  replace H5_ : Holds w4_ (cl b3_ 97 [(Value.slice none 0 0)] :: ro R :: F) := H5_
  have S7_ := Same.trans (Same.refl w) S6_
  refine S_list (T_val (v := (Value.pointer (some ⟨b3_, 0, none⟩))) (x_assign rfl) ?_)
  refine wpList_nil ?_
  refine (X_then (hK2_ _ _ ?_))
  clear hK2_
  refine C_seq (fun K8_ hK8_ => ?_)
  refine C_reg ?_
  refine S_list (T_val (v := (Value.pointer (some ⟨b3_, 0, none⟩))) (x_move rfl) ?_)
  refine S_list (T_val (v := (Value.iface 95 (Value.pointer (some ⟨b3_, 0, none⟩)))) (by kernel_rfl) ?_)
  refine S_list (T_val (v := (Value.int .u32 prev)) (x_move rfl) ?_)
  refine S_list (T_val (v := (Value.int .i64 (off : Int))) (x_move rfl) ?_)
  refine S_list (T_val (v := (Value.int .i64 (max (off : Int) 0))) (x_max2 rfl rfl (max_ite _ _)) ?_)
  refine S_list (T_callW (al := [(Value.iface 95 (Value.pointer (some ⟨b3_, 0, none⟩))), (Value.int .u32 prev), (Value.int .i64 (max (off : Int) 0))]) rfl rfl cb45 (Calls.into (n := 12) (al := [(Value.iface 95 (Value.pointer (some ⟨b3_, 0, none⟩))), (Value.int .u32 prev), (Value.int .i64 (max (off : Int) 0))]) Try.func45 rfl Try.ntmps45 rfl rfl ?_))
  refine C_seq (fun K9_ hK9_ => ?_)
  refine C_reg ?_
  refine S_list (T_alloc z100 H5_ ?_)
  intro b10_ w11_ S13_ H12_
  replace H12_ : Holds w11_ (cl b10_ 100 [(Value.pointer none)] :: cl b3_ 97 [(Value.slice none 0 0)] :: ro R :: F) := H12_
  have S14_ := Same.trans S7_ S13_
  refine wpList_nil ?_
  refine (X_then (hK9_ _ _ ?_))
  clear hK9_
  refine C_seq (fun K15_ hK15_ => ?_)
  refine C_reg ?_
  refine S_list (T_val (v := (Value.iface 95 (Value.pointer (some ⟨b3_, 0, none⟩)))) (x_move rfl) ?_)
  refine S_list (T_val (v := (Value.int .u32 prev)) (x_move rfl) ?_)
  refine S_list (T_val (v := (Value.int .i64 (max (off : Int) 0))) (x_move rfl) ?_)
  have H22_ : Holds w11_ (ro R :: cl b10_ 100 [(Value.pointer none)] :: cl b3_ 97 [(Value.slice none 0 0)] :: F) := (Holds.bring H12_ 2 rfl)
  refine S_list (T_call (al := [(Value.iface 95 (Value.pointer (some ⟨b3_, 0, none⟩))), (Value.int .u32 prev), (Value.int .i64 (((max (off : Int) 0).toNat : Nat) : Int))]) (pre := []) (F := cl b10_ 100 [(Value.pointer none)] :: cl b3_ 97 [(Value.slice none 0 0)] :: F) rfl (lcons rfl (lcons rfl (lcons (congrArg (Value.int .i64) ((by first | rfl | omega | (simp; done) | (simp; omega)) : max (off : Int) 0 = (((max (off : Int) 0).toNat : Nat) : Int))) rfl))) cb74 (wNewEnc R b3_ ((max (off : Int) 0).toNat) prev) H22_ ?_)
  rintro v16_ p26_ w23_ ⟨en17_, pw18_, cb19_, ub20_, bb21_, rfl, rfl⟩ S25_ H24_
  replace H24_ : Holds w23_ (ro R :: cl en17_ 216 [(Value.pointer (some ⟨pw18_, 0, none⟩)), (Value.pointer (some ⟨cb19_, 0, none⟩)), (Value.slice (some ⟨ub20_, 0, none⟩) 8 8)] :: cl cb19_ 244 [(Value.int .u32 prev)] :: cl ub20_ 5 [(Value.int .u8 0), (Value.int .u8 0), (Value.int .u8 0), (Value.int .u8 0), (Value.int .u8 0), (Value.int .u8 0), (Value.int .u8 0), (Value.int .u8 0)] :: cl pw18_ 255 [(Value.iface 95 (Value.pointer (some ⟨b3_, 0, none⟩))), (Value.int .i64 (((max (off : Int) 0).toNat : Nat) : Int)), (Value.int .i64 4096), (Value.int .i64 0), (Value.slice (some ⟨bb21_, 0, none⟩) 135168 135168), (Value.int .i64 131072)] :: cl bb21_ 5 (bytesV ([] : List Int) ++ List.replicate 135168 (Value.int .u8 0)) :: cl b10_ 100 [(Value.pointer none)] :: cl b3_ 97 [(Value.slice none 0 0)] :: F) := H24_
  have S27_ := Same.trans S14_ S25_
  refine S_list (T_val (v := (Value.agg #[(Value.pointer (some ⟨en17_, 0, none⟩))])) (by kernel_rfl) ?_)
  refine S_list0 (T_storeN (vs := [(Value.pointer (some ⟨en17_, 0, none⟩))]) rfl rfl z100 rfl (by simp [Value.oneCell']) H24_ 6 rfl (Nat.le_of_ble_eq_true (by rfl)) ?_)
  intro w28_ S30_ H29_
  replace H29_ : Holds w28_ (ro R :: cl en17_ 216 [(Value.pointer (some ⟨pw18_, 0, none⟩)), (Value.pointer (some ⟨cb19_, 0, none⟩)), (Value.slice (some ⟨ub20_, 0, none⟩) 8 8)] :: cl cb19_ 244 [(Value.int .u32 prev)] :: cl ub20_ 5 [(Value.int .u8 0), (Value.int .u8 0), (Value.int .u8 0), (Value.int .u8 0), (Value.int .u8 0), (Value.int .u8 0), (Value.int .u8 0), (Value.int .u8 0)] :: cl pw18_ 255 [(Value.iface 95 (Value.pointer (some ⟨b3_, 0, none⟩))), (Value.int .i64 (((max (off : Int) 0).toNat : Nat) : Int)), (Value.int .i64 4096), (Value.int .i64 0), (Value.slice (some ⟨bb21_, 0, none⟩) 135168 135168), (Value.int .i64 131072)] :: cl bb21_ 5 (bytesV ([] : List Int) ++ List.replicate 135168 (Value.int .u8 0)) :: cl b10_ 100 [(Value.pointer (some ⟨en17_, 0, none⟩))] :: cl b3_ 97 [(Value.slice none 0 0)] :: F) := H29_
  have S31_ := Same.trans S27_ S30_
  refine wpList_nil ?_
  refine (X_then (hK15_ _ _ ?_))
  clear hK15_
  refine C_ret ?_
  refine R_any (v := (Value.agg #[(Value.pointer (some ⟨en17_, 0, none⟩))])) (run_results1 rfl ⟨_, rfl, load_resN Try.underlying100 rfl z100 rfl (vs := [(Value.pointer (some ⟨en17_, 0, none⟩))]) (Holds.cl_cells H29_ 6 rfl 0 rfl)⟩) ⟨_, rfl, ?_⟩
  refine S_list (T_alloc z100 H29_ ?_)
  intro b32_ w33_ S35_ H34_
  replace H34_ : Holds w33_ (cl b32_ 100 [(Value.pointer none)] :: ro R :: cl en17_ 216 [(Value.pointer (some ⟨pw18_, 0, none⟩)), (Value.pointer (some ⟨cb19_, 0, none⟩)), (Value.slice (some ⟨ub20_, 0, none⟩) 8 8)] :: cl cb19_ 244 [(Value.int .u32 prev)] :: cl ub20_ 5 [(Value.int .u8 0), (Value.int .u8 0), (Value.int .u8 0), (Value.int .u8 0), (Value.int .u8 0), (Value.int .u8 0), (Value.int .u8 0), (Value.int .u8 0)] :: cl pw18_ 255 [(Value.iface 95 (Value.pointer (some ⟨b3_, 0, none⟩))), (Value.int .i64 (((max (off : Int) 0).toNat : Nat) : Int)), (Value.int .i64 4096), (Value.int .i64 0), (Value.slice (some ⟨bb21_, 0, none⟩) 135168 135168), (Value.int .i64 131072)] :: cl bb21_ 5 (bytesV ([] : List Int) ++ List.replicate 135168 (Value.int .u8 0)) :: cl b10_ 100 [(Value.pointer (some ⟨en17_, 0, none⟩))] :: cl b3_ 97 [(Value.slice none 0 0)] :: F) := H34_
  have S36_ := Same.trans S31_ S35_
  refine S_list0 (T_storeN (vs := [(Value.pointer (some ⟨en17_, 0, none⟩))]) rfl rfl z100 rfl (by simp [Value.oneCell']) H34_ 0 rfl (Nat.le_of_ble_eq_true (by rfl)) ?_)
  intro w37_ S39_ H38_
  replace H38_ : Holds w37_ (cl b32_ 100 [(Value.pointer (some ⟨en17_, 0, none⟩))] :: ro R :: cl en17_ 216 [(Value.pointer (some ⟨pw18_, 0, none⟩)), (Value.pointer (some ⟨cb19_, 0, none⟩)), (Value.slice (some ⟨ub20_, 0, none⟩) 8 8)] :: cl cb19_ 244 [(Value.int .u32 prev)] :: cl ub20_ 5 [(Value.int .u8 0), (Value.int .u8 0), (Value.int .u8 0), (Value.int .u8 0), (Value.int .u8 0), (Value.int .u8 0), (Value.int .u8 0), (Value.int .u8 0)] :: cl pw18_ 255 [(Value.iface 95 (Value.pointer (some ⟨b3_, 0, none⟩))), (Value.int .i64 (((max (off : Int) 0).toNat : Nat) : Int)), (Value.int .i64 4096), (Value.int .i64 0), (Value.slice (some ⟨bb21_, 0, none⟩) 135168 135168), (Value.int .i64 131072)] :: cl bb21_ 5 (bytesV ([] : List Int) ++ List.replicate 135168 (Value.int .u8 0)) :: cl b10_ 100 [(Value.pointer (some ⟨en17_, 0, none⟩))] :: cl b3_ 97 [(Value.slice none 0 0)] :: F) := H38_
  have S40_ := Same.trans S36_ S39_
  refine wpList_nil ?_
  refine (X_then (hK8_ _ _ ?_))
  clear hK8_
  refine C_seq (fun K41_ hK41_ => ?_)
  refine C_reg ?_
  refine S_list (T_val (v := (Value.int .i64 0)) (x_assign rfl) ?_)
  refine wpList_nil ?_
  refine (X_then (hK41_ _ _ ?_))
  clear hK41_
  refine C_seq (fun K42_ hK42_ => ?_)
  refine C_seq (fun K43_ hK43_ => ?_)
  refine C_reg ?_
  refine S_list (T_val (v := (Value.int .i64 0)) (x_assign rfl) ?_)
  refine wpList_nil ?_
  refine (X_then (hK43_ _ _ ?_))
  clear hK43_
  refine C_block ?_
  have H44_ : Holds w37_ (sl 5 1 (Value.slice none 0 0) (List.length ([] : List Int)) (bytesV ([] : List Int)) :: cl b32_ 100 [(Value.pointer (some ⟨en17_, 0, none⟩))] :: ro R :: cl en17_ 216 [(Value.pointer (some ⟨pw18_, 0, none⟩)), (Value.pointer (some ⟨cb19_, 0, none⟩)), (Value.slice (some ⟨ub20_, 0, none⟩) 8 8)] :: cl cb19_ 244 [(Value.int .u32 prev)] :: cl ub20_ 5 [(Value.int .u8 0), (Value.int .u8 0), (Value.int .u8 0), (Value.int .u8 0), (Value.int .u8 0), (Value.int .u8 0), (Value.int .u8 0), (Value.int .u8 0)] :: cl pw18_ 255 [(Value.iface 95 (Value.pointer (some ⟨b3_, 0, none⟩))), (Value.int .i64 (((max (off : Int) 0).toNat : Nat) : Int)), (Value.int .i64 4096), (Value.int .i64 0), (Value.slice (some ⟨bb21_, 0, none⟩) 135168 135168), (Value.int .i64 131072)] :: cl bb21_ 5 (bytesV ([] : List Int) ++ List.replicate 135168 (Value.int .u8 0)) :: cl b10_ 100 [(Value.pointer (some ⟨en17_, 0, none⟩))] :: cl b3_ 97 [(Value.slice none 0 0)] :: F) := Holds.add_nil H38_ 5 1
  have H45_ : Holds w37_ (sl 5 1 (Value.slice none 0 0) (List.length ([] : List Int)) (bytesV ([] : List Int)) :: cl b32_ 100 [(Value.pointer (some ⟨en17_, 0, none⟩))] :: ro R :: cl en17_ 216 [(Value.pointer (some ⟨pw18_, 0, none⟩)), (Value.pointer (some ⟨cb19_, 0, none⟩)), (Value.slice (some ⟨ub20_, 0, none⟩) 8 8)] :: cl cb19_ 244 [(Value.int .u32 (wsm prev (List.take 0 L)))] :: cl ub20_ 5 [(Value.int .u8 0), (Value.int .u8 0), (Value.int .u8 0), (Value.int .u8 0), (Value.int .u8 0), (Value.int .u8 0), (Value.int .u8 0), (Value.int .u8 0)] :: cl pw18_ 255 [(Value.iface 95 (Value.pointer (some ⟨b3_, 0, none⟩))), (Value.int .i64 (((max (off : Int) 0).toNat : Nat) : Int)), (Value.int .i64 4096), (Value.int .i64 0), (Value.slice (some ⟨bb21_, 0, none⟩) 135168 135168), (Value.int .i64 131072)] :: cl bb21_ 5 (bytesV ([] : List Int) ++ List.replicate 135168 (Value.int .u8 0)) :: cl b10_ 100 [(Value.pointer (some ⟨en17_, 0, none⟩))] :: cl b3_ 97 [(Value.slice none 0 0)] :: F) := cast1 (P := fun (c__ : List Value) => Holds w37_ (sl 5 1 (Value.slice none 0 0) (List.length ([] : List Int)) (bytesV ([] : List Int)) :: cl b32_ 100 [(Value.pointer (some ⟨en17_, 0, none⟩))] :: ro R :: cl en17_ 216 [(Value.pointer (some ⟨pw18_, 0, none⟩)), (Value.pointer (some ⟨cb19_, 0, none⟩)), (Value.slice (some ⟨ub20_, 0, none⟩) 8 8)] :: cl cb19_ 244 c__ :: cl ub20_ 5 [(Value.int .u8 0), (Value.int .u8 0), (Value.int .u8 0), (Value.int .u8 0), (Value.int .u8 0), (Value.int .u8 0), (Value.int .u8 0), (Value.int .u8 0)] :: cl pw18_ 255 [(Value.iface 95 (Value.pointer (some ⟨b3_, 0, none⟩))), (Value.int .i64 (((max (off : Int) 0).toNat : Nat) : Int)), (Value.int .i64 4096), (Value.int .i64 0), (Value.slice (some ⟨bb21_, 0, none⟩) 135168 135168), (Value.int .i64 131072)] :: cl bb21_ 5 (bytesV ([] : List Int) ++ List.replicate 135168 (Value.int .u8 0)) :: cl b10_ 100 [(Value.pointer (some ⟨en17_, 0, none⟩))] :: cl b3_ 97 [(Value.slice none 0 0)] :: F)) ((lcons (congrArg (Value.int .u32) ((by first | rfl | omega | (simp; done) | (simp; omega)) : prev = wsm prev (List.take 0 L))) rfl) : [(Value.int .u32 prev)] = [(Value.int .u32 (wsm prev (List.take 0 L)))]) H44_
  have H46_ : Holds w37_ (sl 5 1 (Value.slice none 0 0) (List.length ([] : List Int)) (bytesV ([] : List Int)) :: cl b32_ 100 [(Value.pointer (some ⟨en17_, 0, none⟩))] :: ro R :: cl en17_ 216 [(Value.pointer (some ⟨pw18_, 0, none⟩)), (Value.pointer (some ⟨cb19_, 0, none⟩)), (Value.slice (some ⟨ub20_, 0, none⟩) 8 8)] :: cl cb19_ 244 [(Value.int .u32 (wsm prev (List.take 0 L)))] :: cl ub20_ 5 [((Value.int .u8 0)), ((Value.int .u8 0)), ((Value.int .u8 0)), ((Value.int .u8 0)), ((Value.int .u8 0)), ((Value.int .u8 0)), ((Value.int .u8 0)), ((Value.int .u8 0))] :: cl pw18_ 255 [(Value.iface 95 (Value.pointer (some ⟨b3_, 0, none⟩))), (Value.int .i64 (((max (off : Int) 0).toNat : Nat) : Int)), (Value.int .i64 4096), (Value.int .i64 0), (Value.slice (some ⟨bb21_, 0, none⟩) 135168 135168), (Value.int .i64 131072)] :: cl bb21_ 5 (bytesV ([] : List Int) ++ List.replicate 135168 (Value.int .u8 0)) :: cl b10_ 100 [(Value.pointer (some ⟨en17_, 0, none⟩))] :: cl b3_ 97 [(Value.slice none 0 0)] :: F) := cast1 (P := fun (c__ : List Value) => Holds w37_ (sl 5 1 (Value.slice none 0 0) (List.length ([] : List Int)) (bytesV ([] : List Int)) :: cl b32_ 100 [(Value.pointer (some ⟨en17_, 0, none⟩))] :: ro R :: cl en17_ 216 [(Value.pointer (some ⟨pw18_, 0, none⟩)), (Value.pointer (some ⟨cb19_, 0, none⟩)), (Value.slice (some ⟨ub20_, 0, none⟩) 8 8)] :: cl cb19_ 244 [(Value.int .u32 (wsm prev (List.take 0 L)))] :: cl ub20_ 5 c__ :: cl pw18_ 255 [(Value.iface 95 (Value.pointer (some ⟨b3_, 0, none⟩))), (Value.int .i64 (((max (off : Int) 0).toNat : Nat) : Int)), (Value.int .i64 4096), (Value.int .i64 0), (Value.slice (some ⟨bb21_, 0, none⟩) 135168 135168), (Value.int .i64 131072)] :: cl bb21_ 5 (bytesV ([] : List Int) ++ List.replicate 135168 (Value.int .u8 0)) :: cl b10_ 100 [(Value.pointer (some ⟨en17_, 0, none⟩))] :: cl b3_ 97 [(Value.slice none 0 0)] :: F)) ((lcons (rfl : (Value.int .u8 0) = ((Value.int .u8 0))) (lcons (rfl : (Value.int .u8 0) = ((Value.int .u8 0))) (lcons (rfl : (Value.int .u8 0) = ((Value.int .u8 0))) (lcons (rfl : (Value.int .u8 0) = ((Value.int .u8 0))) (lcons (rfl : (Value.int .u8 0) = ((Value.int .u8 0))) (lcons (rfl : (Value.int .u8 0) = ((Value.int .u8 0))) (lcons (rfl : (Value.int .u8 0) = ((Value.int .u8 0))) (lcons (rfl : (Value.int .u8 0) = ((Value.int .u8 0))) rfl)))))))) : [(Value.int .u8 0), (Value.int .u8 0), (Value.int .u8 0), (Value.int .u8 0), (Value.int .u8 0), (Value.int .u8 0), (Value.int .u8 0), (Value.int .u8 0)] = [((Value.int .u8 0)), ((Value.int .u8 0)), ((Value.int .u8 0)), ((Value.int .u8 0)), ((Value.int .u8 0)), ((Value.int .u8 0)), ((Value.int .u8 0)), ((Value.int .u8 0))]) H45_
  have H47_ : Holds w37_ (sl 5 1 (Value.slice none 0 0) (List.length ([] : List Int)) (bytesV ([] : List Int)) :: cl b32_ 100 [(Value.pointer (some ⟨en17_, 0, none⟩))] :: ro R :: cl en17_ 216 [(Value.pointer (some ⟨pw18_, 0, none⟩)), (Value.pointer (some ⟨cb19_, 0, none⟩)), (Value.slice (some ⟨ub20_, 0, none⟩) 8 8)] :: cl cb19_ 244 [(Value.int .u32 (wsm prev (List.take 0 L)))] :: cl ub20_ 5 [((Value.int .u8 0)), ((Value.int .u8 0)), ((Value.int .u8 0)), ((Value.int .u8 0)), ((Value.int .u8 0)), ((Value.int .u8 0)), ((Value.int .u8 0)), ((Value.int .u8 0))] :: cl pw18_ 255 [(Value.iface 95 (Value.pointer (some ⟨b3_, 0, none⟩))), (Value.int .i64 (((max (off : Int) 0).toNat : Nat) : Int)), (Value.int .i64 4096), (Value.int .i64 (([] : List Int).length : Int)), (Value.slice (some ⟨bb21_, 0, none⟩) 135168 135168), (Value.int .i64 131072)] :: cl bb21_ 5 (bytesV ([] : List Int) ++ List.replicate 135168 (Value.int .u8 0)) :: cl b10_ 100 [(Value.pointer (some ⟨en17_, 0, none⟩))] :: cl b3_ 97 [(Value.slice none 0 0)] :: F) := cast1 (P := fun (c__ : List Value) => Holds w37_ (sl 5 1 (Value.slice none 0 0) (List.length ([] : List Int)) (bytesV ([] : List Int)) :: cl b32_ 100 [(Value.pointer (some ⟨en17_, 0, none⟩))] :: ro R :: cl en17_ 216 [(Value.pointer (some ⟨pw18_, 0, none⟩)), (Value.pointer (some ⟨cb19_, 0, none⟩)), (Value.slice (some ⟨ub20_, 0, none⟩) 8 8)] :: cl cb19_ 244 [(Value.int .u32 (wsm prev (List.take 0 L)))] :: cl ub20_ 5 [((Value.int .u8 0)), ((Value.int .u8 0)), ((Value.int .u8 0)), ((Value.int .u8 0)), ((Value.int .u8 0)), ((Value.int .u8 0)), ((Value.int .u8 0)), ((Value.int .u8 0))] :: cl pw18_ 255 c__ :: cl bb21_ 5 (bytesV ([] : List Int) ++ List.replicate 135168 (Value.int .u8 0)) :: cl b10_ 100 [(Value.pointer (some ⟨en17_, 0, none⟩))] :: cl b3_ 97 [(Value.slice none 0 0)] :: F)) ((lcons rfl (lcons rfl (lcons rfl (lcons (congrArg (Value.int .i64) ((by first | rfl | omega | (simp; done) | (simp; omega)) : 0 = (([] : List Int).length : Int))) rfl)))) : [(Value.iface 95 (Value.pointer (some ⟨b3_, 0, none⟩))), (Value.int .i64 (((max (off : Int) 0).toNat : Nat) : Int)), (Value.int .i64 4096), (Value.int .i64 0), (Value.slice (some ⟨bb21_, 0, none⟩) 135168 135168), (Value.int .i64 131072)] = [(Value.iface 95 (Value.pointer (some ⟨b3_, 0, none⟩))), (Value.int .i64 (((max (off : Int) 0).toNat : Nat) : Int)), (Value.int .i64 4096), (Value.int .i64 (([] : List Int).length : Int)), (Value.slice (some ⟨bb21_, 0, none⟩) 135168 135168), (Value.int .i64 131072)]) H46_
  have H48_ : Holds w37_ (sl 5 1 (Value.slice none 0 0) (List.length ([] : List Int)) (bytesV ([] : List Int)) :: cl b32_ 100 [(Value.pointer (some ⟨en17_, 0, none⟩))] :: ro R :: cl en17_ 216 [(Value.pointer (some ⟨pw18_, 0, none⟩)), (Value.pointer (some ⟨cb19_, 0, none⟩)), (Value.slice (some ⟨ub20_, 0, none⟩) 8 8)] :: cl cb19_ 244 [(Value.int .u32 (wsm prev (List.take 0 L)))] :: cl ub20_ 5 [((Value.int .u8 0)), ((Value.int .u8 0)), ((Value.int .u8 0)), ((Value.int .u8 0)), ((Value.int .u8 0)), ((Value.int .u8 0)), ((Value.int .u8 0)), ((Value.int .u8 0))] :: cl pw18_ 255 [(Value.iface 95 (Value.pointer (some ⟨b3_, 0, none⟩))), (Value.int .i64 (((max (off : Int) 0).toNat : Nat) : Int)), (Value.int .i64 4096), (Value.int .i64 (([] : List Int).length : Int)), (Value.slice (some ⟨bb21_, 0, none⟩) 135168 135168), (Value.int .i64 131072)] :: cl bb21_ 5 (bytesV ([] : List Int) ++ (List.replicate 135168 (Value.int .u8 0))) :: cl b10_ 100 [(Value.pointer (some ⟨en17_, 0, none⟩))] :: cl b3_ 97 [(Value.slice none 0 0)] :: F) := cast1 (P := fun (c__ : List Value) => Holds w37_ (sl 5 1 (Value.slice none 0 0) (List.length ([] : List Int)) (bytesV ([] : List Int)) :: cl b32_ 100 [(Value.pointer (some ⟨en17_, 0, none⟩))] :: ro R :: cl en17_ 216 [(Value.pointer (some ⟨pw18_, 0, none⟩)), (Value.pointer (some ⟨cb19_, 0, none⟩)), (Value.slice (some ⟨ub20_, 0, none⟩) 8 8)] :: cl cb19_ 244 [(Value.int .u32 (wsm prev (List.take 0 L)))] :: cl ub20_ 5 [((Value.int .u8 0)), ((Value.int .u8 0)), ((Value.int .u8 0)), ((Value.int .u8 0)), ((Value.int .u8 0)), ((Value.int .u8 0)), ((Value.int .u8 0)), ((Value.int .u8 0))] :: cl pw18_ 255 [(Value.iface 95 (Value.pointer (some ⟨b3_, 0, none⟩))), (Value.int .i64 (((max (off : Int) 0).toNat : Nat) : Int)), (Value.int .i64 4096), (Value.int .i64 (([] : List Int).length : Int)), (Value.slice (some ⟨bb21_, 0, none⟩) 135168 135168), (Value.int .i64 131072)] :: cl bb21_ 5 c__ :: cl b10_ 100 [(Value.pointer (some ⟨en17_, 0, none⟩))] :: cl b3_ 97 [(Value.slice none 0 0)] :: F)) (rfl : bytesV ([] : List Int) ++ List.replicate 135168 (Value.int .u8 0) = bytesV ([] : List Int) ++ (List.replicate 135168 (Value.int .u8 0))) H47_
  have H49_ : Holds w37_ (sl 5 1 (Value.slice none 0 0) (List.length ([] : List Int)) (bytesV ([] : List Int)) :: cl b32_ 100 [(Value.pointer (some ⟨en17_, 0, none⟩))] :: ro R :: cl en17_ 216 [(Value.pointer (some ⟨pw18_, 0, none⟩)), (Value.pointer (some ⟨cb19_, 0, none⟩)), (Value.slice (some ⟨ub20_, 0, none⟩) 8 8)] :: cl cb19_ 244 [(Value.int .u32 (wsm prev (List.take 0 L)))] :: cl ub20_ 5 [((Value.int .u8 0)), ((Value.int .u8 0)), ((Value.int .u8 0)), ((Value.int .u8 0)), ((Value.int .u8 0)), ((Value.int .u8 0)), ((Value.int .u8 0)), ((Value.int .u8 0))] :: cl pw18_ 255 [(Value.iface 95 (Value.pointer (some ⟨b3_, 0, none⟩))), (Value.int .i64 (((max (off : Int) 0).toNat : Nat) : Int)), (Value.int .i64 4096), (Value.int .i64 (([] : List Int).length : Int)), (Value.slice (some ⟨bb21_, 0, none⟩) 135168 135168), (Value.int .i64 131072)] :: cl bb21_ 5 (bytesV ([] : List Int) ++ (List.replicate 135168 (Value.int .u8 0))) :: cl b10_ 100 [(Value.pointer (some ⟨en17_, 0, none⟩))] :: cl b3_ 97 [((Value.slice none 0 0))] :: F) := cast1 (P := fun (c__ : List Value) => Holds w37_ (sl 5 1 (Value.slice none 0 0) (List.length ([] : List Int)) (bytesV ([] : List Int)) :: cl b32_ 100 [(Value.pointer (some ⟨en17_, 0, none⟩))] :: ro R :: cl en17_ 216 [(Value.pointer (some ⟨pw18_, 0, none⟩)), (Value.pointer (some ⟨cb19_, 0, none⟩)), (Value.slice (some ⟨ub20_, 0, none⟩) 8 8)] :: cl cb19_ 244 [(Value.int .u32 (wsm prev (List.take 0 L)))] :: cl ub20_ 5 [((Value.int .u8 0)), ((Value.int .u8 0)), ((Value.int .u8 0)), ((Value.int .u8 0)), ((Value.int .u8 0)), ((Value.int .u8 0)), ((Value.int .u8 0)), ((Value.int .u8 0))] :: cl pw18_ 255 [(Value.iface 95 (Value.pointer (some ⟨b3_, 0, none⟩))), (Value.int .i64 (((max (off : Int) 0).toNat : Nat) : Int)), (Value.int .i64 4096), (Value.int .i64 (([] : List Int).length : Int)), (Value.slice (some ⟨bb21_, 0, none⟩) 135168 135168), (Value.int .i64 131072)] :: cl bb21_ 5 (bytesV ([] : List Int) ++ (List.replicate 135168 (Value.int .u8 0))) :: cl b10_ 100 [(Value.pointer (some ⟨en17_, 0, none⟩))] :: cl b3_ 97 c__ :: F)) ((lcons (rfl : (Value.slice none 0 0) = ((Value.slice none 0 0))) rfl) : [(Value.slice none 0 0)] = [((Value.slice none 0 0))]) H48_
  refine C_loop (γ := Nat × Nat × (List Int) × (List Value) × Value × (List Int) × Value × Value × Value × Value × Value × Value × Value × Value) (fun x a w1 => match x with | ⟨k, po, pd, junk, V, os, c0, c1, c2, c3, c4, c5, c6, c7⟩ => ∃ h : Env, a = mkA 70 (upd (upd (upd (upd (upd (upd (upd h 2 rv) 6 (Value.slice none 0 0)) 7 (Value.int .i64 0)) 8 (Value.pointer (some ⟨b3_, 0, none⟩))) 9 (Value.pointer (some ⟨b32_, 0, none⟩))) 10 (Value.int .i64 0)) 11 (Value.int .i64 (k : Int))) [] ∧ Holds w1 (sl 5 1 V (List.length os) (bytesV os) :: cl b32_ 100 [(Value.pointer (some ⟨en17_, 0, none⟩))] :: ro R :: cl en17_ 216 [(Value.pointer (some ⟨pw18_, 0, none⟩)), (Value.pointer (some ⟨cb19_, 0, none⟩)), (Value.slice (some ⟨ub20_, 0, none⟩) 8 8)] :: cl cb19_ 244 [(Value.int .u32 (wsm prev (List.take k L)))] :: cl ub20_ 5 [c0, c1, c2, c3, c4, c5, c6, c7] :: cl pw18_ 255 [(Value.iface 95 (Value.pointer (some ⟨b3_, 0, none⟩))), (Value.int .i64 (po : Int)), (Value.int .i64 4096), (Value.int .i64 (pd.length : Int)), (Value.slice (some ⟨bb21_, 0, none⟩) 135168 135168), (Value.int .i64 131072)] :: cl bb21_ 5 (bytesV pd ++ junk) :: cl b10_ 100 [(Value.pointer (some ⟨en17_, 0, none⟩))] :: cl b3_ 97 [V] :: F) ∧ Same w w1 ∧ (os ++ pd = (wfs prev (List.take k L)).flatten) ∧ (k ≤ L.length) ∧ (po ≤ 2097152) ∧ (pd.length + junk.length = 135168) ∧ (pd.length + (4096 - (po + pd.length) % 4096) ≤ 135168) ∧ (os.length + pd.length ≤ 6000 * k)) (fun x => match x with | ⟨k, po, pd, junk, V, os, c0, c1, c2, c3, c4, c5, c6, c7⟩ => L.length - k) (⟨0, ((max (off : Int) 0).toNat), ([] : List Int), (List.replicate 135168 (Value.int .u8 0)), (Value.slice none 0 0), ([] : List Int), (Value.int .u8 0), (Value.int .u8 0), (Value.int .u8 0), (Value.int .u8 0), (Value.int .u8 0), (Value.int .u8 0), (Value.int .u8 0), (Value.int .u8 0)⟩) ⟨_, congrArg (fun e => mkA 70 e []) (ch (ch (ch (ch (ch (ch (ch rfl rfl) rfl) rfl) rfl) rfl) rfl) (congrArg (Value.int .i64) ((by first | rfl | omega | (simp; done) | (simp; omega)) : 0 = (0 : Int)))), H49_, S40_, (rfl), (by first | assumption | omega | exact rfl), (by omega), (by rw [List.length_replicate]; rfl), (by simp only [List.length_nil]; omega), (by simp)⟩ ?_
  rintro ⟨k, po, pd, junk, V, os, c0, c1, c2, c3, c4, c5, c6, c7⟩ _ w50_ ⟨h, rfl, H51_, S52_, hos, hkl, hpo, hj, hinv, hlen⟩
  refine C_seq (fun K53_ hK53_ => ?_)
  refine C_seq (fun K54_ hK54_ => ?_)
  refine C_reg ?_
  refine S_list (T_val (v := (Value.int .i64 (k : Int))) (x_move rfl) ?_)
  refine S_list (T_val (v := rv) (x_move rfl) ?_)
  refine S_list (T_val (v := (Value.int .i64 (L.length : Int))) (x_lenRS rfl hL Try.underlying49) ?_)
  refine S_list (T_val (v := (Value.bool (decide ((k : Int) < (L.length : Int))))) (x_bin rfl rfl rfl) ?_)
  refine wpList_nil ?_
  refine (X_then (hK54_ _ _ ?_))
  clear hK54_
  refine C_cond (b := decide ((k : Int) < (L.length : Int))) rfl (fun c55_t => ?_) (fun c55_f => ?_)
  · have c55_tp : (k : Int) < (L.length : Int) := of_decide_eq_true c55_t
    refine C_skip (X_then (hK53_ _ _ ?_))
    clear hK53_
    refine C_seq (fun K56_ hK56_ => ?_)
    refine C_block ?_
    refine C_seq (fun K57_ hK57_ => ?_)
    refine C_reg ?_
    refine S_list (T_val (v := (Value.agg #[(Value.pointer none), (Value.pointer none), (Value.slice none 0 0)])) (by kernel_rfl) ?_)
    refine S_list (T_box (v := (Value.agg #[(Value.pointer none), (Value.pointer none), (Value.slice none 0 0)])) rfl H51_ ?_)
    intro b58_ w59_ S61_ H60_
    replace H60_ : Holds w59_ (cl b58_ 106 [(Value.pointer none), (Value.pointer none), (Value.slice none 0 0)] :: sl 5 1 V (List.length os) (bytesV os) :: cl b32_ 100 [(Value.pointer (some ⟨en17_, 0, none⟩))] :: ro R :: cl en17_ 216 [(Value.pointer (some ⟨pw18_, 0, none⟩)), (Value.pointer (some ⟨cb19_, 0, none⟩)), (Value.slice (some ⟨ub20_, 0, none⟩) 8 8)] :: cl cb19_ 244 [(Value.int .u32 (wsm prev (List.take k L)))] :: cl ub20_ 5 [c0, c1, c2, c3, c4, c5, c6, c7] :: cl pw18_ 255 [(Value.iface 95 (Value.pointer (some ⟨b3_, 0, none⟩))), (Value.int .i64 (po : Int)), (Value.int .i64 4096), (Value.int .i64 (pd.length : Int)), (Value.slice (some ⟨bb21_, 0, none⟩) 135168 135168), (Value.int .i64 131072)] :: cl bb21_ 5 (bytesV pd ++ junk) :: cl b10_ 100 [(Value.pointer (some ⟨en17_, 0, none⟩))] :: cl b3_ 97 [V] :: F) := H60_
    have S62_ := Same.trans S52_ S61_
    refine S_list (T_val (v := (Value.pointer (some ⟨b58_, 0, none⟩))) (x_assign rfl) ?_)
    refine wpList_nil ?_
    refine (X_then (hK57_ _ _ ?_))
    clear hK57_
    refine C_seq (fun K63_ hK63_ => ?_)
    refine C_seq (fun K64_ hK64_ => ?_)
    refine C_reg ?_
    refine S_list (T_val (v := rv) (x_move rfl) ?_)
    refine S_list (T_val (v := (Value.int .i64 (k : Int))) (x_move rfl) ?_)
    obtain ⟨x65_, hx66_, hm67_⟩ := elem_at L k (by omega)
    have hp68_ := hG x65_ hm67_
    have hg69_ := hG x65_ hm67_
    have := hg69_.len
    refine S_list (T_val (v := (Value.pointer (some ⟨(sb rv), so rv + (k * 6 + 0), none⟩))) (x_idxRS (v := rv) rfl hL rfl Try.underlying49 z63 (by omega) (by omega) (by omega : _ = k) rfl) ?_)
    refine S_list (T_val (v := (Value.pointer (some ⟨(sb rv), so rv + (k * 6 + 1), none⟩))) (by kernel_rfl) ?_)
    refine S_list (T_val (v := (Value.bool x65_.hasType)) (x_load1 rfl Try.underlying4 rfl (RC.cell (RS.rc hL) (Holds.ro_at H60_ 3 rfl) (j := k * 6 + 1) (u := (Value.bool x65_.hasType)) (fm_cell WR.len hx66_ (i := 1) rfl))) ?_)
    refine wpList_nil ?_
    refine (X_then (hK64_ _ _ ?_))
    clear hK64_
    refine C_cond (b := x65_.hasType) rfl (fun c70_t => ?_) (fun c70_f => ?_)
    · skip
      refine C_seq (fun K71_ hK71_ => ?_)
      refine C_reg ?_
      refine S_list (T_val (v := rv) (x_move rfl) ?_)
      refine S_list (T_val (v := (Value.int .i64 (k : Int))) (x_move rfl) ?_)
      refine S_list (T_val (v := (Value.pointer (some ⟨(sb rv), so rv + (k * 6 + 0), none⟩))) (x_idxRS (v := rv) rfl hL rfl Try.underlying49 z63 (by omega) (by omega) (by omega : _ = k) rfl) ?_)
      refine S_list (T_val (v := (Value.pointer (some ⟨(sb rv), so rv + (k * 6 + 0), none⟩))) (by kernel_rfl) ?_)
      refine S_list (T_val (v := (Value.int .i64 x65_.type_)) (x_load1 rfl Try.underlying2 rfl (RC.cell (RS.rc hL) (Holds.ro_at H60_ 3 rfl) (j := k * 6 + 0) (u := (Value.int .i64 x65_.type_)) (fm_cell WR.len hx66_ (i := 0) rfl))) ?_)
      refine S_list (T_alloc z2 H60_ ?_)
      intro b72_ w73_ S75_ H74_
      replace H74_ : Holds w73_ (cl b72_ 2 [(Value.int .i64 0)] :: cl b58_ 106 [(Value.pointer none), (Value.pointer none), (Value.slice none 0 0)] :: sl 5 1 V (List.length os) (bytesV os) :: cl b32_ 100 [(Value.pointer (some ⟨en17_, 0, none⟩))] :: ro R :: cl en17_ 216 [(Value.pointer (some ⟨pw18_, 0, none⟩)), (Value.pointer (some ⟨cb19_, 0, none⟩)), (Value.slice (some ⟨ub20_, 0, none⟩) 8 8)] :: cl cb19_ 244 [(Value.int .u32 (wsm prev (List.take k L)))] :: cl ub20_ 5 [c0, c1, c2, c3, c4, c5, c6, c7] :: cl pw18_ 255 [(Value.iface 95 (Value.pointer (some ⟨b3_, 0, none⟩))), (Value.int .i64 (po : Int)), (Value.int .i64 4096), (Value.int .i64 (pd.length : Int)), (Value.slice (some ⟨bb21_, 0, none⟩) 135168 135168), (Value.int .i64 131072)] :: cl bb21_ 5 (bytesV pd ++ junk) :: cl b10_ 100 [(Value.pointer (some ⟨en17_, 0, none⟩))] :: cl b3_ 97 [V] :: F) := H74_
      have S76_ := Same.trans S62_ S75_
      refine S_list0 (T_store1 (v := (Value.int .i64 x65_.type_)) rfl rfl z2 rfl H74_ 0 rfl (Nat.le_of_ble_eq_true (by rfl)) ?_)
      intro w77_ S79_ H78_
      replace H78_ : Holds w77_ (cl b72_ 2 [(Value.int .i64 x65_.type_)] :: cl b58_ 106 [(Value.pointer none), (Value.pointer none), (Value.slice none 0 0)] :: sl 5 1 V (List.length os) (bytesV os) :: cl b32_ 100 [(Value.pointer (some ⟨en17_, 0, none⟩))] :: ro R :: cl en17_ 216 [(Value.pointer (some ⟨pw18_, 0, none⟩)), (Value.pointer (some ⟨cb19_, 0, none⟩)), (Value.slice (some ⟨ub20_, 0, none⟩) 8 8)] :: cl cb19_ 244 [(Value.int .u32 (wsm prev (List.take k L)))] :: cl ub20_ 5 [c0, c1, c2, c3, c4, c5, c6, c7] :: cl pw18_ 255 [(Value.iface 95 (Value.pointer (some ⟨b3_, 0, none⟩))), (Value.int .i64 (po : Int)), (Value.int .i64 4096), (Value.int .i64 (pd.length : Int)), (Value.slice (some ⟨bb21_, 0, none⟩) 135168 135168), (Value.int .i64 131072)] :: cl bb21_ 5 (bytesV pd ++ junk) :: cl b10_ 100 [(Value.pointer (some ⟨en17_, 0, none⟩))] :: cl b3_ 97 [V] :: F) := H78_
      have S80_ := Same.trans S76_ S79_
      refine wpList_nil ?_
      refine (X_then (hK71_ _ _ ?_))
      clear hK71_
      refine C_reg ?_
      refine S_list (T_val (v := (Value.pointer (some ⟨b58_, 0, none⟩))) (x_move rfl) ?_)
      refine S_list (T_val (v := (Value.pointer (some ⟨b58_, 0, none⟩))) (by kernel_rfl) ?_)
      refine S_list (T_val (v := (Value.pointer (some ⟨b58_, 0, none⟩))) (by kernel_rfl) ?_)
      refine S_list0 (T_store1 (v := (Value.pointer (some ⟨b72_, 0, none⟩))) rfl rfl z103 rfl H78_ 1 rfl (Nat.le_of_ble_eq_true (by rfl)) ?_)
      intro w81_ S83_ H82_
      replace H82_ : Holds w81_ (cl b72_ 2 [(Value.int .i64 x65_.type_)] :: cl b58_ 106 [(Value.pointer (some ⟨b72_, 0, none⟩)), (Value.pointer none), (Value.slice none 0 0)] :: sl 5 1 V (List.length os) (bytesV os) :: cl b32_ 100 [(Value.pointer (some ⟨en17_, 0, none⟩))] :: ro R :: cl en17_ 216 [(Value.pointer (some ⟨pw18_, 0, none⟩)), (Value.pointer (some ⟨cb19_, 0, none⟩)), (Value.slice (some ⟨ub20_, 0, none⟩) 8 8)] :: cl cb19_ 244 [(Value.int .u32 (wsm prev (List.take k L)))] :: cl ub20_ 5 [c0, c1, c2, c3, c4, c5, c6, c7] :: cl pw18_ 255 [(Value.iface 95 (Value.pointer (some ⟨b3_, 0, none⟩))), (Value.int .i64 (po : Int)), (Value.int .i64 4096), (Value.int .i64 (pd.length : Int)), (Value.slice (some ⟨bb21_, 0, none⟩) 135168 135168), (Value.int .i64 131072)] :: cl bb21_ 5 (bytesV pd ++ junk) :: cl b10_ 100 [(Value.pointer (some ⟨en17_, 0, none⟩))] :: cl b3_ 97 [V] :: F) := H82_
      have S84_ := Same.trans S80_ S83_
      refine wpList_nil ?_
      refine (X_then (hK63_ _ _ ?_))
      clear hK63_
      refine C_seq (fun K85_ hK85_ => ?_)
      refine C_seq (fun K86_ hK86_ => ?_)
      refine C_reg ?_
      refine S_list (T_val (v := rv) (x_move rfl) ?_)
      refine S_list (T_val (v := (Value.int .i64 (k : Int))) (x_move rfl) ?_)
      refine S_list (T_val (v := (Value.pointer (some ⟨(sb rv), so rv + (k * 6 + 0), none⟩))) (x_idxRS (v := rv) rfl hL rfl Try.underlying49 z63 (by omega) (by omega) (by omega : _ = k) rfl) ?_)
      refine S_list (T_val (v := (Value.pointer (some ⟨(sb rv), so rv + (k * 6 + 5), none⟩))) (by kernel_rfl) ?_)
      refine S_list (T_val (v := (Value.bool x65_.hasData)) (x_load1 rfl Try.underlying4 rfl (RC.cell (RS.rc hL) (Holds.ro_at H82_ 4 rfl) (j := k * 6 + 5) (u := (Value.bool x65_.hasData)) (fm_cell WR.len hx66_ (i := 5) rfl))) ?_)
      refine wpList_nil ?_
      refine (X_then (hK86_ _ _ ?_))
      clear hK86_
      refine C_cond (b := x65_.hasData) rfl (fun c87_t => ?_) (fun c87_f => ?_)
      · skip
        refine C_reg ?_
        refine S_list (T_val (v := (Value.pointer (some ⟨b58_, 0, none⟩))) (x_move rfl) ?_)
        refine S_list (T_val (v := rv) (x_move rfl) ?_)
        refine S_list (T_val (v := (Value.int .i64 (k : Int))) (x_move rfl) ?_)
        refine S_list (T_val (v := (Value.pointer (some ⟨(sb rv), so rv + (k * 6 + 0), none⟩))) (x_idxRS (v := rv) rfl hL rfl Try.underlying49 z63 (by omega) (by omega) (by omega : _ = k) rfl) ?_)
        refine S_list (T_val (v := (Value.pointer (some ⟨(sb rv), so rv + (k * 6 + 4), none⟩))) (by kernel_rfl) ?_)
        refine S_list (T_val (v := (Value.string x65_.data)) (x_load1 rfl Try.underlying9 rfl (RC.cell (RS.rc hL) (Holds.ro_at H82_ 4 rfl) (j := k * 6 + 4) (u := (Value.string x65_.data)) (fm_cell WR.len hx66_ (i := 4) rfl))) ?_)
        refine S_list (T_s2b rfl Try.underlying9 Try.underlying43 Try.underlying5 H82_ ?_)
        intro b88_ cp89_ w90_ S92_ hc93_ H91_
        have S94_ := Same.trans S84_ S92_
        have H95_ : Holds w90_ (sl 5 1 (Value.slice (some ⟨b88_, 0, none⟩) x65_.data.size cp89_) x65_.data.size (bytesV (ints x65_.data)) :: cl b72_ 2 [(Value.int .i64 x65_.type_)] :: cl b58_ 106 [(Value.pointer (some ⟨b72_, 0, none⟩)), (Value.pointer none), (Value.slice none 0 0)] :: sl 5 1 V (List.length os) (bytesV os) :: cl b32_ 100 [(Value.pointer (some ⟨en17_, 0, none⟩))] :: ro R :: cl en17_ 216 [(Value.pointer (some ⟨pw18_, 0, none⟩)), (Value.pointer (some ⟨cb19_, 0, none⟩)), (Value.slice (some ⟨ub20_, 0, none⟩) 8 8)] :: cl cb19_ 244 [(Value.int .u32 (wsm prev (List.take k L)))] :: cl ub20_ 5 [c0, c1, c2, c3, c4, c5, c6, c7] :: cl pw18_ 255 [(Value.iface 95 (Value.pointer (some ⟨b3_, 0, none⟩))), (Value.int .i64 (po : Int)), (Value.int .i64 4096), (Value.int .i64 (pd.length : Int)), (Value.slice (some ⟨bb21_, 0, none⟩) 135168 135168), (Value.int .i64 131072)] :: cl bb21_ 5 (bytesV pd ++ junk) :: cl b10_ 100 [(Value.pointer (some ⟨en17_, 0, none⟩))] :: cl b3_ 97 [V] :: F) := cast2 (P := fun (c__ : List Value) (k__ : Nat) => Holds w90_ (sl 5 1 (Value.slice (some ⟨b88_, 0, none⟩) x65_.data.size cp89_) k__ c__ :: cl b72_ 2 [(Value.int .i64 x65_.type_)] :: cl b58_ 106 [(Value.pointer (some ⟨b72_, 0, none⟩)), (Value.pointer none), (Value.slice none 0 0)] :: sl 5 1 V (List.length os) (bytesV os) :: cl b32_ 100 [(Value.pointer (some ⟨en17_, 0, none⟩))] :: ro R :: cl en17_ 216 [(Value.pointer (some ⟨pw18_, 0, none⟩)), (Value.pointer (some ⟨cb19_, 0, none⟩)), (Value.slice (some ⟨ub20_, 0, none⟩) 8 8)] :: cl cb19_ 244 [(Value.int .u32 (wsm prev (List.take k L)))] :: cl ub20_ 5 [c0, c1, c2, c3, c4, c5, c6, c7] :: cl pw18_ 255 [(Value.iface 95 (Value.pointer (some ⟨b3_, 0, none⟩))), (Value.int .i64 (po : Int)), (Value.int .i64 4096), (Value.int .i64 (pd.length : Int)), (Value.slice (some ⟨bb21_, 0, none⟩) 135168 135168), (Value.int .i64 131072)] :: cl bb21_ 5 (bytesV pd ++ junk) :: cl b10_ 100 [(Value.pointer (some ⟨en17_, 0, none⟩))] :: cl b3_ 97 [V] :: F)) (byteCells_bytesV _ : byteCells x65_.data = bytesV (ints x65_.data)) (rfl : x65_.data.size = x65_.data.size) H91_
        have H96_ : Holds w90_ (sl 5 1 (Value.slice (some ⟨b88_, 0, none⟩) x65_.data.size cp89_) (List.length (ints x65_.data)) (bytesV (ints x65_.data)) :: cl b72_ 2 [(Value.int .i64 x65_.type_)] :: cl b58_ 106 [(Value.pointer (some ⟨b72_, 0, none⟩)), (Value.pointer none), (Value.slice none 0 0)] :: sl 5 1 V (List.length os) (bytesV os) :: cl b32_ 100 [(Value.pointer (some ⟨en17_, 0, none⟩))] :: ro R :: cl en17_ 216 [(Value.pointer (some ⟨pw18_, 0, none⟩)), (Value.pointer (some ⟨cb19_, 0, none⟩)), (Value.slice (some ⟨ub20_, 0, none⟩) 8 8)] :: cl cb19_ 244 [(Value.int .u32 (wsm prev (List.take k L)))] :: cl ub20_ 5 [c0, c1, c2, c3, c4, c5, c6, c7] :: cl pw18_ 255 [(Value.iface 95 (Value.pointer (some ⟨b3_, 0, none⟩))), (Value.int .i64 (po : Int)), (Value.int .i64 4096), (Value.int .i64 (pd.length : Int)), (Value.slice (some ⟨bb21_, 0, none⟩) 135168 135168), (Value.int .i64 131072)] :: cl bb21_ 5 (bytesV pd ++ junk) :: cl b10_ 100 [(Value.pointer (some ⟨en17_, 0, none⟩))] :: cl b3_ 97 [V] :: F) := cast2 (P := fun (c__ : List Value) (k__ : Nat) => Holds w90_ (sl 5 1 (Value.slice (some ⟨b88_, 0, none⟩) x65_.data.size cp89_) k__ c__ :: cl b72_ 2 [(Value.int .i64 x65_.type_)] :: cl b58_ 106 [(Value.pointer (some ⟨b72_, 0, none⟩)), (Value.pointer none), (Value.slice none 0 0)] :: sl 5 1 V (List.length os) (bytesV os) :: cl b32_ 100 [(Value.pointer (some ⟨en17_, 0, none⟩))] :: ro R :: cl en17_ 216 [(Value.pointer (some ⟨pw18_, 0, none⟩)), (Value.pointer (some ⟨cb19_, 0, none⟩)), (Value.slice (some ⟨ub20_, 0, none⟩) 8 8)] :: cl cb19_ 244 [(Value.int .u32 (wsm prev (List.take k L)))] :: cl ub20_ 5 [c0, c1, c2, c3, c4, c5, c6, c7] :: cl pw18_ 255 [(Value.iface 95 (Value.pointer (some ⟨b3_, 0, none⟩))), (Value.int .i64 (po : Int)), (Value.int .i64 4096), (Value.int .i64 (pd.length : Int)), (Value.slice (some ⟨bb21_, 0, none⟩) 135168 135168), (Value.int .i64 131072)] :: cl bb21_ 5 (bytesV pd ++ junk) :: cl b10_ 100 [(Value.pointer (some ⟨en17_, 0, none⟩))] :: cl b3_ 97 [V] :: F)) (rfl : bytesV (ints x65_.data) = bytesV (ints x65_.data)) ((ints_length _).symm : x65_.data.size = (List.length (ints x65_.data))) H95_
        refine S_list (T_val (v := (Value.pointer (some ⟨b58_, 0, none⟩))) (by kernel_rfl) ?_)
        refine S_list (T_val (v := (Value.pointer (some ⟨b58_, 2, none⟩))) (by kernel_rfl) ?_)
        refine S_list0 (T_store1 (v := (Value.slice (some ⟨b88_, 0, none⟩) x65_.data.size cp89_)) rfl rfl z43 rfl H96_ 2 rfl (Nat.le_of_ble_eq_true (by rfl)) ?_)
        intro w97_ S99_ H98_
        replace H98_ : Holds w97_ (sl 5 1 (Value.slice (some ⟨b88_, 0, none⟩) x65_.data.size cp89_) (List.length (ints x65_.data)) (bytesV (ints x65_.data)) :: cl b72_ 2 [(Value.int .i64 x65_.type_)] :: cl b58_ 106 [(Value.pointer (some ⟨b72_, 0, none⟩)), (Value.pointer none), (Value.slice (some ⟨b88_, 0, none⟩) x65_.data.size cp89_)] :: sl 5 1 V (List.length os) (bytesV os) :: cl b32_ 100 [(Value.pointer (some ⟨en17_, 0, none⟩))] :: ro R :: cl en17_ 216 [(Value.pointer (some ⟨pw18_, 0, none⟩)), (Value.pointer (some ⟨cb19_, 0, none⟩)), (Value.slice (some ⟨ub20_, 0, none⟩) 8 8)] :: cl cb19_ 244 [(Value.int .u32 (wsm prev (List.take k L)))] :: cl ub20_ 5 [c0, c1, c2, c3, c4, c5, c6, c7] :: cl pw18_ 255 [(Value.iface 95 (Value.pointer (some ⟨b3_, 0, none⟩))), (Value.int .i64 (po : Int)), (Value.int .i64 4096), (Value.int .i64 (pd.length : Int)), (Value.slice (some ⟨bb21_, 0, none⟩) 135168 135168), (Value.int .i64 131072)] :: cl bb21_ 5 (bytesV pd ++ junk) :: cl b10_ 100 [(Value.pointer (some ⟨en17_, 0, none⟩))] :: cl b3_ 97 [V] :: F) := H98_
        have S100_ := Same.trans S94_ S99_
        refine wpList_nil ?_
        refine (X_then (hK85_ _ _ ?_))
        clear hK85_
        refine C_seq (fun K101_ hK101_ => ?_)
        refine C_reg ?_
        refine S_list (T_val (v := (Value.agg #[(Value.pointer (some ⟨en17_, 0, none⟩))])) (x_loadN (vs := [(Value.pointer (some ⟨en17_, 0, none⟩))]) rfl Try.underlying100 rfl z100 rfl (Rd.cells (Holds.rd H98_ 4 rfl) 0 rfl)) ?_)
        refine S_list (T_val (v := (Value.pointer (some ⟨b58_, 0, none⟩))) (x_move rfl) ?_)
        refine S_list (T_callW (al := [(Value.agg #[(Value.pointer (some ⟨en17_, 0, none⟩))]), (Value.pointer (some ⟨b58_, 0, none⟩))]) rfl rfl cb46 (Calls.into (n := 9) (al := [(Value.agg #[(Value.pointer (some ⟨en17_, 0, none⟩))]), (Value.pointer (some ⟨b58_, 0, none⟩))]) Try.func46 rfl Try.ntmps46 rfl rfl ?_))
        refine C_seq (fun K102_ hK102_ => ?_)
        refine C_reg ?_
        refine S_list (T_box (v := (Value.agg #[(Value.pointer (some ⟨en17_, 0, none⟩))])) rfl H98_ ?_)
        intro b103_ w104_ S106_ H105_
        replace H105_ : Holds w104_ (cl b103_ 100 [(Value.pointer (some ⟨en17_, 0, none⟩))] :: sl 5 1 (Value.slice (some ⟨b88_, 0, none⟩) x65_.data.size cp89_) (List.length (ints x65_.data)) (bytesV (ints x65_.data)) :: cl b72_ 2 [(Value.int .i64 x65_.type_)] :: cl b58_ 106 [(Value.pointer (some ⟨b72_, 0, none⟩)), (Value.pointer none), (Value.slice (some ⟨b88_, 0, none⟩) x65_.data.size cp89_)] :: sl 5 1 V (List.length os) (bytesV os) :: cl b32_ 100 [(Value.pointer (some ⟨en17_, 0, none⟩))] :: ro R :: cl en17_ 216 [(Value.pointer (some ⟨pw18_, 0, none⟩)), (Value.pointer (some ⟨cb19_, 0, none⟩)), (Value.slice (some ⟨ub20_, 0, none⟩) 8 8)] :: cl cb19_ 244 [(Value.int .u32 (wsm prev (List.take k L)))] :: cl ub20_ 5 [c0, c1, c2, c3, c4, c5, c6, c7] :: cl pw18_ 255 [(Value.iface 95 (Value.pointer (some ⟨b3_, 0, none⟩))), (Value.int .i64 (po : Int)), (Value.int .i64 4096), (Value.int .i64 (pd.length : Int)), (Value.slice (some ⟨bb21_, 0, none⟩) 135168 135168), (Value.int .i64 131072)] :: cl bb21_ 5 (bytesV pd ++ junk) :: cl b10_ 100 [(Value.pointer (some ⟨en17_, 0, none⟩))] :: cl b3_ 97 [V] :: F) := H105_
        have S107_ := Same.trans S100_ S106_
        refine S_list (T_val (v := (Value.nilIface)) (x_assign rfl) ?_)
        refine wpList_nil ?_
        refine (X_then (hK102_ _ _ ?_))
        clear hK102_
        refine C_seq (fun K108_ hK108_ => ?_)
        refine C_reg ?_
        refine S_list (T_val (v := (Value.pointer (some ⟨b103_, 0, none⟩))) (by kernel_rfl) ?_)
        refine S_list (T_val (v := (Value.pointer (some ⟨en17_, 0, none⟩))) (x_load1 rfl Try.underlying98 rfl ((Holds.rd H105_ 0 rfl) 0 (Value.pointer (some ⟨en17_, 0, none⟩)) rfl)) ?_)
        refine S_list (T_val (v := (Value.pointer (some ⟨b58_, 0, none⟩))) (x_move rfl) ?_)
        have H109_ : Holds w104_ (cl b103_ 100 [(Value.pointer (some ⟨en17_, 0, none⟩))] :: sl 5 1 (Value.slice (some ⟨b88_, 0, none⟩) x65_.data.size cp89_) (List.length (ints x65_.data)) (bytesV (ints x65_.data)) :: cl b72_ 2 [(Value.int .i64 x65_.type_)] :: cl b58_ 106 [(Value.pointer (some ⟨b72_, 0, none⟩)), (Value.pointer none), (Value.slice (some ⟨b88_, 0, none⟩) ((ints x65_.data).length) cp89_)] :: sl 5 1 V (List.length os) (bytesV os) :: cl b32_ 100 [(Value.pointer (some ⟨en17_, 0, none⟩))] :: ro R :: cl en17_ 216 [(Value.pointer (some ⟨pw18_, 0, none⟩)), (Value.pointer (some ⟨cb19_, 0, none⟩)), (Value.slice (some ⟨ub20_, 0, none⟩) 8 8)] :: cl cb19_ 244 [(Value.int .u32 (wsm prev (List.take k L)))] :: cl ub20_ 5 [c0, c1, c2, c3, c4, c5, c6, c7] :: cl pw18_ 255 [(Value.iface 95 (Value.pointer (some ⟨b3_, 0, none⟩))), (Value.int .i64 (po : Int)), (Value.int .i64 4096), (Value.int .i64 (pd.length : Int)), (Value.slice (some ⟨bb21_, 0, none⟩) 135168 135168), (Value.int .i64 131072)] :: cl bb21_ 5 (bytesV pd ++ junk) :: cl b10_ 100 [(Value.pointer (some ⟨en17_, 0, none⟩))] :: cl b3_ 97 [V] :: F) := cast1 (P := fun (c__ : List Value) => Holds w104_ (cl b103_ 100 [(Value.pointer (some ⟨en17_, 0, none⟩))] :: sl 5 1 (Value.slice (some ⟨b88_, 0, none⟩) x65_.data.size cp89_) (List.length (ints x65_.data)) (bytesV (ints x65_.data)) :: cl b72_ 2 [(Value.int .i64 x65_.type_)] :: cl b58_ 106 c__ :: sl 5 1 V (List.length os) (bytesV os) :: cl b32_ 100 [(Value.pointer (some ⟨en17_, 0, none⟩))] :: ro R :: cl en17_ 216 [(Value.pointer (some ⟨pw18_, 0, none⟩)), (Value.pointer (some ⟨cb19_, 0, none⟩)), (Value.slice (some ⟨ub20_, 0, none⟩) 8 8)] :: cl cb19_ 244 [(Value.int .u32 (wsm prev (List.take k L)))] :: cl ub20_ 5 [c0, c1, c2, c3, c4, c5, c6, c7] :: cl pw18_ 255 [(Value.iface 95 (Value.pointer (some ⟨b3_, 0, none⟩))), (Value.int .i64 (po : Int)), (Value.int .i64 4096), (Value.int .i64 (pd.length : Int)), (Value.slice (some ⟨bb21_, 0, none⟩) 135168 135168), (Value.int .i64 131072)] :: cl bb21_ 5 (bytesV pd ++ junk) :: cl b10_ 100 [(Value.pointer (some ⟨en17_, 0, none⟩))] :: cl b3_ 97 [V] :: F)) ((lcons rfl (lcons rfl (lcons (sl_eq (ints_length _).symm rfl) rfl))) : [(Value.pointer (some ⟨b72_, 0, none⟩)), (Value.pointer none), (Value.slice (some ⟨b88_, 0, none⟩) x65_.data.size cp89_)] = [(Value.pointer (some ⟨b72_, 0, none⟩)), (Value.pointer none), (Value.slice (some ⟨b88_, 0, none⟩) ((ints x65_.data).length) cp89_)]) H105_
        have H128_ : Holds w104_ (ro R :: sl 5 1 (Value.slice (some ⟨b88_, 0, none⟩) x65_.data.size cp89_) (List.length (ints x65_.data)) (bytesV (ints x65_.data)) :: cl en17_ 216 [(Value.pointer (some ⟨pw18_, 0, none⟩)), (Value.pointer (some ⟨cb19_, 0, none⟩)), (Value.slice (some ⟨ub20_, 0, none⟩) 8 8)] :: cl cb19_ 244 [(Value.int .u32 (wsm prev (List.take k L)))] :: cl ub20_ 5 [c0, c1, c2, c3, c4, c5, c6, c7] :: cl b58_ 106 [(Value.pointer (some ⟨b72_, 0, none⟩)), (Value.pointer none), (Value.slice (some ⟨b88_, 0, none⟩) ((ints x65_.data).length) cp89_)] :: cl b72_ 2 [(Value.int .i64 x65_.type_)] :: cl pw18_ 255 [(Value.iface 95 (Value.pointer (some ⟨b3_, 0, none⟩))), (Value.int .i64 (po : Int)), (Value.int .i64 4096), (Value.int .i64 (pd.length : Int)), (Value.slice (some ⟨bb21_, 0, none⟩) 135168 135168), (Value.int .i64 131072)] :: cl bb21_ 5 (bytesV pd ++ junk) :: cl b3_ 97 [V] :: sl 5 1 V (List.length os) (bytesV os) :: cl b103_ 100 [(Value.pointer (some ⟨en17_, 0, none⟩))] :: cl b32_ 100 [(Value.pointer (some ⟨en17_, 0, none⟩))] :: cl b10_ 100 [(Value.pointer (some ⟨en17_, 0, none⟩))] :: F) := (Holds.bring (Holds.bring (Holds.bring (Holds.bring (Holds.bring (Holds.bring (Holds.bring (Holds.bring (Holds.bring (Holds.bring (Holds.bring H109_ 4 rfl) 13 rfl) 12 rfl) 12 rfl) 6 rfl) 7 rfl) 12 rfl) 12 rfl) 12 rfl) 10 rfl) 12 rfl)
        refine S_list (T_call (al := [(Value.pointer (some ⟨en17_, 0, none⟩)), (Value.pointer (some ⟨b58_, 0, none⟩))]) (pre := [sl 5 1 (Value.slice (some ⟨b88_, 0, none⟩) x65_.data.size cp89_) (List.length (ints x65_.data)) (bytesV (ints x65_.data)), cl en17_ 216 [(Value.pointer (some ⟨pw18_, 0, none⟩)), (Value.pointer (some ⟨cb19_, 0, none⟩)), (Value.slice (some ⟨ub20_, 0, none⟩) 8 8)], cl cb19_ 244 [(Value.int .u32 (wsm prev (List.take k L)))], cl ub20_ 5 [c0, c1, c2, c3, c4, c5, c6, c7], cl b58_ 106 [(Value.pointer (some ⟨b72_, 0, none⟩)), (Value.pointer none), (Value.slice (some ⟨b88_, 0, none⟩) ((ints x65_.data).length) cp89_)], cl b72_ 2 [(Value.int .i64 x65_.type_)], cl pw18_ 255 [(Value.iface 95 (Value.pointer (some ⟨b3_, 0, none⟩))), (Value.int .i64 (po : Int)), (Value.int .i64 4096), (Value.int .i64 (pd.length : Int)), (Value.slice (some ⟨bb21_, 0, none⟩) 135168 135168), (Value.int .i64 131072)], cl bb21_ 5 (bytesV pd ++ junk), cl b3_ 97 [V], sl 5 1 V (List.length os) (bytesV os)]) (F := cl b103_ 100 [(Value.pointer (some ⟨en17_, 0, none⟩))] :: cl b32_ 100 [(Value.pointer (some ⟨en17_, 0, none⟩))] :: cl b10_ 100 [(Value.pointer (some ⟨en17_, 0, none⟩))] :: F) rfl rfl cb75 (Tri.lend (fun h0__ a0__ d0__ => wEncSome (un R h0__) en17_ cb19_ ub20_ b58_ b72_ (wsm prev (List.take k L)) x65_.type_ c0 c1 c2 c3 c4 c5 c6 c7 pw18_ bb21_ b3_ po pd junk V os b88_ cp89_ (ints x65_.data) (RS.set_ (cast1 (P := fun v__ => RS _ 1 v__ _ _) (congrArg (fun k__ => Value.slice (some ⟨b88_, 0, none⟩) k__ cp89_) (ints_length _).symm) (sl_RS a0__ (Sub.un_right d0__))) rfl (by first | rfl | omega | (simp; done) | (simp; omega))) (by rw [ints_length]; omega) (by first | assumption | omega) (by first | assumption | omega) (by first | assumption | omega) (by first | assumption | omega))) H128_ ?_)
        rintro v110_ p132_ w129_ ⟨_, rfl, ⟨c0111_, c1112_, c2113_, c3114_, c4115_, c5116_, c6117_, c7118_, po119_, pd120_, junk121_, V122_, os123_, rfl, rfl, he124_, he125_, he126_, he127_⟩⟩ S131_ H130_
        replace H130_ : Holds w129_ (ro R :: sl 5 1 (Value.slice (some ⟨b88_, 0, none⟩) x65_.data.size cp89_) (List.length (ints x65_.data)) (bytesV (ints x65_.data)) :: cl en17_ 216 [(Value.pointer (some ⟨pw18_, 0, none⟩)), (Value.pointer (some ⟨cb19_, 0, none⟩)), (Value.slice (some ⟨ub20_, 0, none⟩) 8 8)] :: cl cb19_ 244 [(Value.int .u32 (crc (wsm prev (List.take k L)) (ints x65_.data)))] :: cl ub20_ 5 [c0111_, c1112_, c2113_, c3114_, c4115_, c5116_, c6117_, c7118_] :: cl pw18_ 255 [(Value.iface 95 (Value.pointer (some ⟨b3_, 0, none⟩))), (Value.int .i64 (po119_ : Int)), (Value.int .i64 4096), (Value.int .i64 (pd120_.length : Int)), (Value.slice (some ⟨bb21_, 0, none⟩) 135168 135168), (Value.int .i64 131072)] :: cl bb21_ 5 (bytesV pd120_ ++ junk121_) :: cl b3_ 97 [V122_] :: sl 5 1 V122_ (List.length os123_) (bytesV os123_) :: cl b103_ 100 [(Value.pointer (some ⟨en17_, 0, none⟩))] :: cl b32_ 100 [(Value.pointer (some ⟨en17_, 0, none⟩))] :: cl b10_ 100 [(Value.pointer (some ⟨en17_, 0, none⟩))] :: F) := H130_
        have S133_ := Same.trans S107_ S131_
        rw [wfr_has c87_t, show crc (wsm prev (List.take k L)) (ints x65_.data) = wnx (wsm prev (List.take k L)) x65_ from rfl] at he127_
        have hw_ := wfr_len (n := wnx (wsm prev (List.take k L)) x65_) hg69_
        have hll_ := congrArg List.length he127_
        simp only [List.length_append] at hll_
        refine S_list (T_val (v := (Value.nilIface)) (x_assign rfl) ?_)
        refine wpList_nil ?_
        refine (X_then (hK108_ _ _ ?_))
        clear hK108_
        refine C_ret ?_
        refine R_any (v := (Value.nilIface)) (run_results1 rfl rfl) ⟨_, rfl, ?_⟩
        refine S_list (T_val (v := (Value.bool false)) (by kernel_rfl) ?_)
        refine wpList_nil ?_
        refine (X_then (hK101_ _ _ ?_))
        clear hK101_
        refine C_condF rfl ?_
        refine C_skip (X_blkN (X_then (hK56_ _ _ ?_)))
        clear hK56_
        refine C_reg ?_
        refine S_list (T_val (v := (Value.int .i64 (k : Int))) (x_move rfl) ?_)
        refine S_list (T_val (v := (Value.int .i64 ((k : Int) + 1))) (x_bin rfl rfl (ib_add (IntWalk.i64_in _ (by omega)))) ?_)
        refine S_list (T_val (v := (Value.int .i64 ((k : Int) + 1))) (x_assign rfl) ?_)
        refine wpList_nil ?_
        refine (X_then ?_)
        have H135_ : Holds w129_ (ro R :: sl 5 1 (Value.slice (some ⟨b88_, 0, none⟩) x65_.data.size cp89_) (List.length (ints x65_.data)) (bytesV (ints x65_.data)) :: cl en17_ 216 [(Value.pointer (some ⟨pw18_, 0, none⟩)), (Value.pointer (some ⟨cb19_, 0, none⟩)), (Value.slice (some ⟨ub20_, 0, none⟩) 8 8)] :: cl cb19_ 244 [(Value.int .u32 (wsm prev (List.take (k + 1) L)))] :: cl ub20_ 5 [c0111_, c1112_, c2113_, c3114_, c4115_, c5116_, c6117_, c7118_] :: cl pw18_ 255 [(Value.iface 95 (Value.pointer (some ⟨b3_, 0, none⟩))), (Value.int .i64 (po119_ : Int)), (Value.int .i64 4096), (Value.int .i64 (pd120_.length : Int)), (Value.slice (some ⟨bb21_, 0, none⟩) 135168 135168), (Value.int .i64 131072)] :: cl bb21_ 5 (bytesV pd120_ ++ junk121_) :: cl b3_ 97 [V122_] :: sl 5 1 V122_ (List.length os123_) (bytesV os123_) :: cl b103_ 100 [(Value.pointer (some ⟨en17_, 0, none⟩))] :: cl b32_ 100 [(Value.pointer (some ⟨en17_, 0, none⟩))] :: cl b10_ 100 [(Value.pointer (some ⟨en17_, 0, none⟩))] :: F) := cast1 (P := fun (c__ : List Value) => Holds w129_ (ro R :: sl 5 1 (Value.slice (some ⟨b88_, 0, none⟩) x65_.data.size cp89_) (List.length (ints x65_.data)) (bytesV (ints x65_.data)) :: cl en17_ 216 [(Value.pointer (some ⟨pw18_, 0, none⟩)), (Value.pointer (some ⟨cb19_, 0, none⟩)), (Value.slice (some ⟨ub20_, 0, none⟩) 8 8)] :: cl cb19_ 244 c__ :: cl ub20_ 5 [c0111_, c1112_, c2113_, c3114_, c4115_, c5116_, c6117_, c7118_] :: cl pw18_ 255 [(Value.iface 95 (Value.pointer (some ⟨b3_, 0, none⟩))), (Value.int .i64 (po119_ : Int)), (Value.int .i64 4096), (Value.int .i64 (pd120_.length : Int)), (Value.slice (some ⟨bb21_, 0, none⟩) 135168 135168), (Value.int .i64 131072)] :: cl bb21_ 5 (bytesV pd120_ ++ junk121_) :: cl b3_ 97 [V122_] :: sl 5 1 V122_ (List.length os123_) (bytesV os123_) :: cl b103_ 100 [(Value.pointer (some ⟨en17_, 0, none⟩))] :: cl b32_ 100 [(Value.pointer (some ⟨en17_, 0, none⟩))] :: cl b10_ 100 [(Value.pointer (some ⟨en17_, 0, none⟩))] :: F)) ((lcons (congrArg (Value.int .u32) ((by rw [wsm_take hx66_]; rfl) : crc (wsm prev (List.take k L)) (ints x65_.data) = wsm prev (List.take (k + 1) L))) rfl) : [(Value.int .u32 (crc (wsm prev (List.take k L)) (ints x65_.data)))] = [(Value.int .u32 (wsm prev (List.take (k + 1) L)))]) H130_
        have H136_ : Holds w129_ (sl 5 1 V122_ (List.length os123_) (bytesV os123_) :: cl b32_ 100 [(Value.pointer (some ⟨en17_, 0, none⟩))] :: ro R :: cl en17_ 216 [(Value.pointer (some ⟨pw18_, 0, none⟩)), (Value.pointer (some ⟨cb19_, 0, none⟩)), (Value.slice (some ⟨ub20_, 0, none⟩) 8 8)] :: cl cb19_ 244 [(Value.int .u32 (wsm prev (List.take (k + 1) L)))] :: cl ub20_ 5 [c0111_, c1112_, c2113_, c3114_, c4115_, c5116_, c6117_, c7118_] :: cl pw18_ 255 [(Value.iface 95 (Value.pointer (some ⟨b3_, 0, none⟩))), (Value.int .i64 (po119_ : Int)), (Value.int .i64 4096), (Value.int .i64 (pd120_.length : Int)), (Value.slice (some ⟨bb21_, 0, none⟩) 135168 135168), (Value.int .i64 131072)] :: cl bb21_ 5 (bytesV pd120_ ++ junk121_) :: cl b10_ 100 [(Value.pointer (some ⟨en17_, 0, none⟩))] :: cl b3_ 97 [V122_] :: F) := (Holds.erase (Holds.erase (Holds.bring (Holds.bring (Holds.bring (Holds.bring (Holds.bring (Holds.bring (Holds.bring (Holds.bring (Holds.bring (Holds.bring H135_ 7 rfl) 11 rfl) 8 rfl) 8 rfl) 8 rfl) 8 rfl) 8 rfl) 7 rfl) 11 rfl) 10 rfl) 10) 10)
        exact ⟨⟨k + 1, po119_, pd120_, junk121_, V122_, os123_, c0111_, c1112_, c2113_, c3114_, c4115_, c5116_, c6117_, c7118_⟩, ⟨_, congrArg (fun e => mkA 70 e []) (ch (ch (ch (ch (ch (ch (ch rfl rfl) rfl) rfl) rfl) rfl) rfl) (congrArg (Value.int .i64) ((by first | rfl | omega | (simp; done) | (simp; omega)) : (k : Int) + 1 = ((k + 1 : Nat) : Int)))), H136_, S133_, (by rw [he127_, hos, wfs_take hx66_, List.flatten_append]; simp), (by first | assumption | omega | exact rfl), (by first | assumption | omega | exact rfl), (by first | assumption | omega | exact rfl), (by first | assumption | omega | exact rfl), (by first | assumption | omega | exact rfl)⟩, by first | omega | (dsimp only; omega) | (simp; omega)⟩
      · skip
        refine C_skip (X_then (hK85_ _ _ ?_))
        clear hK85_
        refine C_seq (fun K137_ hK137_ => ?_)
        refine C_reg ?_
        refine S_list (T_val (v := (Value.agg #[(Value.pointer (some ⟨en17_, 0, none⟩))])) (x_loadN (vs := [(Value.pointer (some ⟨en17_, 0, none⟩))]) rfl Try.underlying100 rfl z100 rfl (Rd.cells (Holds.rd H82_ 3 rfl) 0 rfl)) ?_)
        refine S_list (T_val (v := (Value.pointer (some ⟨b58_, 0, none⟩))) (x_move rfl) ?_)
        refine S_list (T_callW (al := [(Value.agg #[(Value.pointer (some ⟨en17_, 0, none⟩))]), (Value.pointer (some ⟨b58_, 0, none⟩))]) rfl rfl cb46 (Calls.into (n := 9) (al := [(Value.agg #[(Value.pointer (some ⟨en17_, 0, none⟩))]), (Value.pointer (some ⟨b58_, 0, none⟩))]) Try.func46 rfl Try.ntmps46 rfl rfl ?_))
        refine C_seq (fun K138_ hK138_ => ?_)
        refine C_reg ?_
        refine S_list (T_box (v := (Value.agg #[(Value.pointer (some ⟨en17_, 0, none⟩))])) rfl H82_ ?_)
        intro b139_ w140_ S142_ H141_
        replace H141_ : Holds w140_ (cl b139_ 100 [(Value.pointer (some ⟨en17_, 0, none⟩))] :: cl b72_ 2 [(Value.int .i64 x65_.type_)] :: cl b58_ 106 [(Value.pointer (some ⟨b72_, 0, none⟩)), (Value.pointer none), (Value.slice none 0 0)] :: sl 5 1 V (List.length os) (bytesV os) :: cl b32_ 100 [(Value.pointer (some ⟨en17_, 0, none⟩))] :: ro R :: cl en17_ 216 [(Value.pointer (some ⟨pw18_, 0, none⟩)), (Value.pointer (some ⟨cb19_, 0, none⟩)), (Value.slice (some ⟨ub20_, 0, none⟩) 8 8)] :: cl cb19_ 244 [(Value.int .u32 (wsm prev (List.take k L)))] :: cl ub20_ 5 [c0, c1, c2, c3, c4, c5, c6, c7] :: cl pw18_ 255 [(Value.iface 95 (Value.pointer (some ⟨b3_, 0, none⟩))), (Value.int .i64 (po : Int)), (Value.int .i64 4096), (Value.int .i64 (pd.length : Int)), (Value.slice (some ⟨bb21_, 0, none⟩) 135168 135168), (Value.int .i64 131072)] :: cl bb21_ 5 (bytesV pd ++ junk) :: cl b10_ 100 [(Value.pointer (some ⟨en17_, 0, none⟩))] :: cl b3_ 97 [V] :: F) := H141_
        have S143_ := Same.trans S84_ S142_
        refine S_list (T_val (v := (Value.nilIface)) (x_assign rfl) ?_)
        refine wpList_nil ?_
        refine (X_then (hK138_ _ _ ?_))
        clear hK138_
        refine C_seq (fun K144_ hK144_ => ?_)
        refine C_reg ?_
        refine S_list (T_val (v := (Value.pointer (some ⟨b139_, 0, none⟩))) (by kernel_rfl) ?_)
        refine S_list (T_val (v := (Value.pointer (some ⟨en17_, 0, none⟩))) (x_load1 rfl Try.underlying98 rfl ((Holds.rd H141_ 0 rfl) 0 (Value.pointer (some ⟨en17_, 0, none⟩)) rfl)) ?_)
        refine S_list (T_val (v := (Value.pointer (some ⟨b58_, 0, none⟩))) (x_move rfl) ?_)
        have H163_ : Holds w140_ (ro R :: cl en17_ 216 [(Value.pointer (some ⟨pw18_, 0, none⟩)), (Value.pointer (some ⟨cb19_, 0, none⟩)), (Value.slice (some ⟨ub20_, 0, none⟩) 8 8)] :: cl cb19_ 244 [(Value.int .u32 (wsm prev (List.take k L)))] :: cl ub20_ 5 [c0, c1, c2, c3, c4, c5, c6, c7] :: cl b58_ 106 [(Value.pointer (some ⟨b72_, 0, none⟩)), (Value.pointer none), (Value.slice none 0 0)] :: cl b72_ 2 [(Value.int .i64 x65_.type_)] :: cl pw18_ 255 [(Value.iface 95 (Value.pointer (some ⟨b3_, 0, none⟩))), (Value.int .i64 (po : Int)), (Value.int .i64 4096), (Value.int .i64 (pd.length : Int)), (Value.slice (some ⟨bb21_, 0, none⟩) 135168 135168), (Value.int .i64 131072)] :: cl bb21_ 5 (bytesV pd ++ junk) :: cl b3_ 97 [V] :: sl 5 1 V (List.length os) (bytesV os) :: cl b139_ 100 [(Value.pointer (some ⟨en17_, 0, none⟩))] :: cl b32_ 100 [(Value.pointer (some ⟨en17_, 0, none⟩))] :: cl b10_ 100 [(Value.pointer (some ⟨en17_, 0, none⟩))] :: F) := (Holds.bring (Holds.bring (Holds.bring (Holds.bring (Holds.bring (Holds.bring (Holds.bring (Holds.bring (Holds.bring (Holds.bring H141_ 3 rfl) 12 rfl) 11 rfl) 11 rfl) 5 rfl) 6 rfl) 11 rfl) 11 rfl) 11 rfl) 11 rfl)
        refine S_list (T_call (al := [(Value.pointer (some ⟨en17_, 0, none⟩)), (Value.pointer (some ⟨b58_, 0, none⟩))]) (pre := [cl en17_ 216 [(Value.pointer (some ⟨pw18_, 0, none⟩)), (Value.pointer (some ⟨cb19_, 0, none⟩)), (Value.slice (some ⟨ub20_, 0, none⟩) 8 8)], cl cb19_ 244 [(Value.int .u32 (wsm prev (List.take k L)))], cl ub20_ 5 [c0, c1, c2, c3, c4, c5, c6, c7], cl b58_ 106 [(Value.pointer (some ⟨b72_, 0, none⟩)), (Value.pointer none), (Value.slice none 0 0)], cl b72_ 2 [(Value.int .i64 x65_.type_)], cl pw18_ 255 [(Value.iface 95 (Value.pointer (some ⟨b3_, 0, none⟩))), (Value.int .i64 (po : Int)), (Value.int .i64 4096), (Value.int .i64 (pd.length : Int)), (Value.slice (some ⟨bb21_, 0, none⟩) 135168 135168), (Value.int .i64 131072)], cl bb21_ 5 (bytesV pd ++ junk), cl b3_ 97 [V], sl 5 1 V (List.length os) (bytesV os)]) (F := cl b139_ 100 [(Value.pointer (some ⟨en17_, 0, none⟩))] :: cl b32_ 100 [(Value.pointer (some ⟨en17_, 0, none⟩))] :: cl b10_ 100 [(Value.pointer (some ⟨en17_, 0, none⟩))] :: F) rfl rfl cb75 (wEncNil R en17_ cb19_ ub20_ b58_ b72_ (wsm prev (List.take k L)) x65_.type_ c0 c1 c2 c3 c4 c5 c6 c7 pw18_ bb21_ b3_ po pd junk V os (by first | assumption | omega) (by first | assumption | omega) (by first | assumption | omega) (by first | assumption | omega)) H163_ ?_)
        rintro v145_ p167_ w164_ ⟨c0146_, c1147_, c2148_, c3149_, c4150_, c5151_, c6152_, c7153_, po154_, pd155_, junk156_, V157_, os158_, rfl, rfl, he159_, he160_, he161_, he162_⟩ S166_ H165_
        replace H165_ : Holds w164_ (ro R :: cl en17_ 216 [(Value.pointer (some ⟨pw18_, 0, none⟩)), (Value.pointer (some ⟨cb19_, 0, none⟩)), (Value.slice (some ⟨ub20_, 0, none⟩) 8 8)] :: cl cb19_ 244 [(Value.int .u32 (crc (wsm prev (List.take k L)) ([] : List Int)))] :: cl ub20_ 5 [c0146_, c1147_, c2148_, c3149_, c4150_, c5151_, c6152_, c7153_] :: cl pw18_ 255 [(Value.iface 95 (Value.pointer (some ⟨b3_, 0, none⟩))), (Value.int .i64 (po154_ : Int)), (Value.int .i64 4096), (Value.int .i64 (pd155_.length : Int)), (Value.slice (some ⟨bb21_, 0, none⟩) 135168 135168), (Value.int .i64 131072)] :: cl bb21_ 5 (bytesV pd155_ ++ junk156_) :: cl b3_ 97 [V157_] :: sl 5 1 V157_ (List.length os158_) (bytesV os158_) :: cl b139_ 100 [(Value.pointer (some ⟨en17_, 0, none⟩))] :: cl b32_ 100 [(Value.pointer (some ⟨en17_, 0, none⟩))] :: cl b10_ 100 [(Value.pointer (some ⟨en17_, 0, none⟩))] :: F) := H165_
        have S168_ := Same.trans S143_ S166_
        rw [wnx_none hg69_ c87_f, wfr_none hg69_ c87_f] at he162_
        have hw_ := wfr_len (n := wnx (wsm prev (List.take k L)) x65_) hg69_
        have hll_ := congrArg List.length he162_
        simp only [List.length_append] at hll_
        refine S_list (T_val (v := (Value.nilIface)) (x_assign rfl) ?_)
        refine wpList_nil ?_
        refine (X_then (hK144_ _ _ ?_))
        clear hK144_
        refine C_ret ?_
        refine R_any (v := (Value.nilIface)) (run_results1 rfl rfl) ⟨_, rfl, ?_⟩
        refine S_list (T_val (v := (Value.bool false)) (by kernel_rfl) ?_)
        refine wpList_nil ?_
        refine (X_then (hK137_ _ _ ?_))
        clear hK137_
        refine C_condF rfl ?_
        refine C_skip (X_blkN (X_then (hK56_ _ _ ?_)))
        clear hK56_
        refine C_reg ?_
        refine S_list (T_val (v := (Value.int .i64 (k : Int))) (x_move rfl) ?_)
        refine S_list (T_val (v := (Value.int .i64 ((k : Int) + 1))) (x_bin rfl rfl (ib_add (IntWalk.i64_in _ (by omega)))) ?_)
        refine S_list (T_val (v := (Value.int .i64 ((k : Int) + 1))) (x_assign rfl) ?_)
        refine wpList_nil ?_
        refine (X_then ?_)
        have H170_ : Holds w164_ (ro R :: cl en17_ 216 [(Value.pointer (some ⟨pw18_, 0, none⟩)), (Value.pointer (some ⟨cb19_, 0, none⟩)), (Value.slice (some ⟨ub20_, 0, none⟩) 8 8)] :: cl cb19_ 244 [(Value.int .u32 (wsm prev (List.take (k + 1) L)))] :: cl ub20_ 5 [c0146_, c1147_, c2148_, c3149_, c4150_, c5151_, c6152_, c7153_] :: cl pw18_ 255 [(Value.iface 95 (Value.pointer (some ⟨b3_, 0, none⟩))), (Value.int .i64 (po154_ : Int)), (Value.int .i64 4096), (Value.int .i64 (pd155_.length : Int)), (Value.slice (some ⟨bb21_, 0, none⟩) 135168 135168), (Value.int .i64 131072)] :: cl bb21_ 5 (bytesV pd155_ ++ junk156_) :: cl b3_ 97 [V157_] :: sl 5 1 V157_ (List.length os158_) (bytesV os158_) :: cl b139_ 100 [(Value.pointer (some ⟨en17_, 0, none⟩))] :: cl b32_ 100 [(Value.pointer (some ⟨en17_, 0, none⟩))] :: cl b10_ 100 [(Value.pointer (some ⟨en17_, 0, none⟩))] :: F) := cast1 (P := fun (c__ : List Value) => Holds w164_ (ro R :: cl en17_ 216 [(Value.pointer (some ⟨pw18_, 0, none⟩)), (Value.pointer (some ⟨cb19_, 0, none⟩)), (Value.slice (some ⟨ub20_, 0, none⟩) 8 8)] :: cl cb19_ 244 c__ :: cl ub20_ 5 [c0146_, c1147_, c2148_, c3149_, c4150_, c5151_, c6152_, c7153_] :: cl pw18_ 255 [(Value.iface 95 (Value.pointer (some ⟨b3_, 0, none⟩))), (Value.int .i64 (po154_ : Int)), (Value.int .i64 4096), (Value.int .i64 (pd155_.length : Int)), (Value.slice (some ⟨bb21_, 0, none⟩) 135168 135168), (Value.int .i64 131072)] :: cl bb21_ 5 (bytesV pd155_ ++ junk156_) :: cl b3_ 97 [V157_] :: sl 5 1 V157_ (List.length os158_) (bytesV os158_) :: cl b139_ 100 [(Value.pointer (some ⟨en17_, 0, none⟩))] :: cl b32_ 100 [(Value.pointer (some ⟨en17_, 0, none⟩))] :: cl b10_ 100 [(Value.pointer (some ⟨en17_, 0, none⟩))] :: F)) ((lcons (congrArg (Value.int .u32) ((by rw [wsm_take hx66_, wnx_none hg69_ c87_f]) : crc (wsm prev (List.take k L)) ([] : List Int) = wsm prev (List.take (k + 1) L))) rfl) : [(Value.int .u32 (crc (wsm prev (List.take k L)) ([] : List Int)))] = [(Value.int .u32 (wsm prev (List.take (k + 1) L)))]) H165_
        have H171_ : Holds w164_ (sl 5 1 V157_ (List.length os158_) (bytesV os158_) :: cl b32_ 100 [(Value.pointer (some ⟨en17_, 0, none⟩))] :: ro R :: cl en17_ 216 [(Value.pointer (some ⟨pw18_, 0, none⟩)), (Value.pointer (some ⟨cb19_, 0, none⟩)), (Value.slice (some ⟨ub20_, 0, none⟩) 8 8)] :: cl cb19_ 244 [(Value.int .u32 (wsm prev (List.take (k + 1) L)))] :: cl ub20_ 5 [c0146_, c1147_, c2148_, c3149_, c4150_, c5151_, c6152_, c7153_] :: cl pw18_ 255 [(Value.iface 95 (Value.pointer (some ⟨b3_, 0, none⟩))), (Value.int .i64 (po154_ : Int)), (Value.int .i64 4096), (Value.int .i64 (pd155_.length : Int)), (Value.slice (some ⟨bb21_, 0, none⟩) 135168 135168), (Value.int .i64 131072)] :: cl bb21_ 5 (bytesV pd155_ ++ junk156_) :: cl b10_ 100 [(Value.pointer (some ⟨en17_, 0, none⟩))] :: cl b3_ 97 [V157_] :: F) := (Holds.erase (Holds.bring (Holds.bring (Holds.bring (Holds.bring (Holds.bring (Holds.bring (Holds.bring (Holds.bring (Holds.bring (Holds.bring H170_ 6 rfl) 10 rfl) 7 rfl) 7 rfl) 7 rfl) 7 rfl) 7 rfl) 7 rfl) 10 rfl) 9 rfl) 10)
        exact ⟨⟨k + 1, po154_, pd155_, junk156_, V157_, os158_, c0146_, c1147_, c2148_, c3149_, c4150_, c5151_, c6152_, c7153_⟩, ⟨_, congrArg (fun e => mkA 70 e []) (ch (ch (ch (ch (ch (ch (ch rfl rfl) rfl) rfl) rfl) rfl) rfl) (congrArg (Value.int .i64) ((by first | rfl | omega | (simp; done) | (simp; omega)) : (k : Int) + 1 = ((k + 1 : Nat) : Int)))), H171_, S168_, (by rw [he162_, hos, wfs_take hx66_, List.flatten_append]; simp), (by first | assumption | omega | exact rfl), (by first | assumption | omega | exact rfl), (by first | assumption | omega | exact rfl), (by first | assumption | omega | exact rfl), (by first | assumption | omega | exact rfl)⟩, by first | omega | (dsimp only; omega) | (simp; omega)⟩
    · skip
      rw [hg69_.ty] at c70_f; cases c70_f
  · have c55_fp : ¬ ((k : Int) < (L.length : Int)) := of_decide_eq_false c55_f
    refine C_exit (X_thenX (X_thenX (X_blkHit ?_)))
    refine (X_then (hK42_ _ _ ?_))
    clear hK42_
    refine C_seq (fun K172_ hK172_ => ?_)
    refine C_reg ?_
    refine S_list (T_val (v := (Value.agg #[(Value.pointer (some ⟨en17_, 0, none⟩))])) (x_loadN (vs := [(Value.pointer (some ⟨en17_, 0, none⟩))]) rfl Try.underlying100 rfl z100 rfl (Rd.cells (Holds.rd H51_ 1 rfl) 0 rfl)) ?_)
    refine S_list (T_callW (al := [(Value.agg #[(Value.pointer (some ⟨en17_, 0, none⟩))])]) rfl rfl cb47 (Calls.into (n := 6) (al := [(Value.agg #[(Value.pointer (some ⟨en17_, 0, none⟩))])]) Try.func47 rfl Try.ntmps47 rfl rfl ?_))
    refine C_seq (fun K173_ hK173_ => ?_)
    refine C_reg ?_
    refine S_list (T_box (v := (Value.agg #[(Value.pointer (some ⟨en17_, 0, none⟩))])) rfl H51_ ?_)
    intro b174_ w175_ S177_ H176_
    replace H176_ : Holds w175_ (cl b174_ 100 [(Value.pointer (some ⟨en17_, 0, none⟩))] :: sl 5 1 V (List.length os) (bytesV os) :: cl b32_ 100 [(Value.pointer (some ⟨en17_, 0, none⟩))] :: ro R :: cl en17_ 216 [(Value.pointer (some ⟨pw18_, 0, none⟩)), (Value.pointer (some ⟨cb19_, 0, none⟩)), (Value.slice (some ⟨ub20_, 0, none⟩) 8 8)] :: cl cb19_ 244 [(Value.int .u32 (wsm prev (List.take k L)))] :: cl ub20_ 5 [c0, c1, c2, c3, c4, c5, c6, c7] :: cl pw18_ 255 [(Value.iface 95 (Value.pointer (some ⟨b3_, 0, none⟩))), (Value.int .i64 (po : Int)), (Value.int .i64 4096), (Value.int .i64 (pd.length : Int)), (Value.slice (some ⟨bb21_, 0, none⟩) 135168 135168), (Value.int .i64 131072)] :: cl bb21_ 5 (bytesV pd ++ junk) :: cl b10_ 100 [(Value.pointer (some ⟨en17_, 0, none⟩))] :: cl b3_ 97 [V] :: F) := H176_
    have S178_ := Same.trans S52_ S177_
    refine S_list (T_val (v := (Value.nilIface)) (x_assign rfl) ?_)
    refine wpList_nil ?_
    refine (X_then (hK173_ _ _ ?_))
    clear hK173_
    refine C_seq (fun K179_ hK179_ => ?_)
    refine C_reg ?_
    refine S_list (T_val (v := (Value.pointer (some ⟨b174_, 0, none⟩))) (by kernel_rfl) ?_)
    refine S_list (T_val (v := (Value.pointer (some ⟨en17_, 0, none⟩))) (x_load1 rfl Try.underlying98 rfl ((Holds.rd H176_ 0 rfl) 0 (Value.pointer (some ⟨en17_, 0, none⟩)) rfl)) ?_)
    refine S_list (T_callW (al := [(Value.pointer (some ⟨en17_, 0, none⟩))]) rfl rfl cb76 (Calls.intoN (n := 15) (al := [(Value.pointer (some ⟨en17_, 0, none⟩))]) Try.func76 rfl Try.ntmps76 rfl rfl ?_))
    refine C_seq (fun K180_ hK180_ => ?_)
    refine C_reg ?_
    refine S_list (T_val (v := (Value.nilIface)) (x_assign rfl) ?_)
    refine wpList_nil ?_
    refine (X_then (hK180_ _ _ ?_))
    clear hK180_
    refine C_seq (fun K181_ hK181_ => ?_)
    refine C_reg ?_
    refine S_list (T_val (v := (Value.pointer (some ⟨en17_, 0, none⟩))) (x_move rfl) ?_)
    refine S_list (T_val (v := (Value.pointer (some ⟨en17_, 0, none⟩))) (by kernel_rfl) ?_)
    refine S_list (T_val (v := (Value.pointer (some ⟨en17_, 0, none⟩))) (x_fieldAddr0 rfl Try.underlying216 rfl z214 rfl rfl H176_ 4 rfl (by kernel_rfl)) ?_)
    refine S_list (T_callW (al := [(Value.pointer (some ⟨en17_, 0, none⟩))]) rfl rfl cb100 (Calls.into (n := 2) (al := [(Value.pointer (some ⟨en17_, 0, none⟩))]) Try.func100 rfl Try.ntmps100 rfl rfl ?_))
    refine C_skip ?_
    refine R_0 rfl ⟨_, rfl, ?_⟩
    refine wpList_nil ?_
    refine (X_then (hK181_ _ _ ?_))
    clear hK181_
    refine C_seq (fun K182_ hK182_ => ?_)
    refine C_reg ?_
    refine S_list (T_val (v := (Value.pointer (some ⟨en17_, 0, none⟩))) (x_move rfl) ?_)
    refine S_list (T_val (v := (Value.pointer (some ⟨en17_, 0, none⟩))) (by kernel_rfl) ?_)
    refine S_list (T_val (v := (Value.pointer (some ⟨en17_, 0, none⟩))) (x_fieldAddr0 rfl Try.underlying216 rfl z214 rfl rfl H176_ 4 rfl (by kernel_rfl)) ?_)
    refine S_defer (dd := { target := .fn (.func 101) #[], args := #[(Value.pointer (some ⟨en17_, 0, none⟩))] }) (by kernel_rfl) ?_
    refine wpList_nil ?_
    refine (X_then (hK182_ _ _ ?_))
    clear hK182_
    refine C_seq (fun K183_ hK183_ => ?_)
    refine C_reg ?_
    refine S_list (T_val (v := (Value.pointer (some ⟨en17_, 0, none⟩))) (x_move rfl) ?_)
    refine S_list (T_val (v := (Value.pointer (some ⟨en17_, 0, none⟩))) (by kernel_rfl) ?_)
    refine S_list (T_val (v := (Value.pointer (some ⟨en17_, 0, none⟩))) (by kernel_rfl) ?_)
    refine S_list (T_val (v := (Value.pointer (some ⟨pw18_, 0, none⟩))) (x_load1 rfl Try.underlying211 rfl ((Holds.rd H176_ 4 rfl) 0 (Value.pointer (some ⟨pw18_, 0, none⟩)) rfl)) ?_)
    refine S_list (T_callW (al := [(Value.pointer (some ⟨pw18_, 0, none⟩))]) rfl rfl cb104 (Calls.into (n := 11) (al := [(Value.pointer (some ⟨pw18_, 0, none⟩))]) Try.func104 rfl Try.ntmps104 rfl rfl ?_))
    refine C_seq (fun K184_ hK184_ => ?_)
    refine C_reg ?_
    refine S_list (T_val (v := (Value.nilIface)) (x_assign rfl) ?_)
    refine wpList_nil ?_
    refine (X_then (hK184_ _ _ ?_))
    clear hK184_
    refine C_seq (fun K185_ hK185_ => ?_)
    refine C_reg ?_
    refine S_list (T_val (v := (Value.pointer (some ⟨pw18_, 0, none⟩))) (x_move rfl) ?_)
    have H193_ : Holds w175_ (ro R :: cl pw18_ 255 [(Value.iface 95 (Value.pointer (some ⟨b3_, 0, none⟩))), (Value.int .i64 (po : Int)), (Value.int .i64 4096), (Value.int .i64 (pd.length : Int)), (Value.slice (some ⟨bb21_, 0, none⟩) 135168 135168), (Value.int .i64 131072)] :: cl bb21_ 5 (bytesV pd ++ junk) :: cl b3_ 97 [V] :: sl 5 1 V (List.length os) (bytesV os) :: cl b174_ 100 [(Value.pointer (some ⟨en17_, 0, none⟩))] :: cl b32_ 100 [(Value.pointer (some ⟨en17_, 0, none⟩))] :: cl en17_ 216 [(Value.pointer (some ⟨pw18_, 0, none⟩)), (Value.pointer (some ⟨cb19_, 0, none⟩)), (Value.slice (some ⟨ub20_, 0, none⟩) 8 8)] :: cl cb19_ 244 [(Value.int .u32 (wsm prev (List.take k L)))] :: cl ub20_ 5 [c0, c1, c2, c3, c4, c5, c6, c7] :: cl b10_ 100 [(Value.pointer (some ⟨en17_, 0, none⟩))] :: F) := (Holds.bring (Holds.bring (Holds.bring (Holds.bring (Holds.bring H176_ 1 rfl) 10 rfl) 9 rfl) 9 rfl) 6 rfl)
    refine S_list (T_call (al := [(Value.pointer (some ⟨pw18_, 0, none⟩))]) (pre := [cl pw18_ 255 [(Value.iface 95 (Value.pointer (some ⟨b3_, 0, none⟩))), (Value.int .i64 (po : Int)), (Value.int .i64 4096), (Value.int .i64 (pd.length : Int)), (Value.slice (some ⟨bb21_, 0, none⟩) 135168 135168), (Value.int .i64 131072)], cl bb21_ 5 (bytesV pd ++ junk), cl b3_ 97 [V], sl 5 1 V (List.length os) (bytesV os)]) (F := cl b174_ 100 [(Value.pointer (some ⟨en17_, 0, none⟩))] :: cl b32_ 100 [(Value.pointer (some ⟨en17_, 0, none⟩))] :: cl en17_ 216 [(Value.pointer (some ⟨pw18_, 0, none⟩)), (Value.pointer (some ⟨cb19_, 0, none⟩)), (Value.slice (some ⟨ub20_, 0, none⟩) 8 8)] :: cl cb19_ 244 [(Value.int .u32 (wsm prev (List.take k L)))] :: cl ub20_ 5 [c0, c1, c2, c3, c4, c5, c6, c7] :: cl b10_ 100 [(Value.pointer (some ⟨en17_, 0, none⟩))] :: F) rfl rfl cb115 (wFlush R pw18_ bb21_ b3_ po pd junk V os (by first | assumption | omega) (by first | assumption | omega) (by first | assumption | omega)) H193_ ?_)
    rintro v186_ p197_ w194_ ⟨nn187_, po188_, junk189_, V190_, rfl, rfl, he191_, he192_⟩ S196_ H195_
    replace H195_ : Holds w194_ (ro R :: cl pw18_ 255 [(Value.iface 95 (Value.pointer (some ⟨b3_, 0, none⟩))), (Value.int .i64 (po188_ : Int)), (Value.int .i64 4096), (Value.int .i64 0), (Value.slice (some ⟨bb21_, 0, none⟩) 135168 135168), (Value.int .i64 131072)] :: cl bb21_ 5 (bytesV [] ++ junk189_) :: cl b3_ 97 [V190_] :: sl 5 1 V190_ (List.length (os ++ pd)) (bytesV (os ++ pd)) :: cl b174_ 100 [(Value.pointer (some ⟨en17_, 0, none⟩))] :: cl b32_ 100 [(Value.pointer (some ⟨en17_, 0, none⟩))] :: cl en17_ 216 [(Value.pointer (some ⟨pw18_, 0, none⟩)), (Value.pointer (some ⟨cb19_, 0, none⟩)), (Value.slice (some ⟨ub20_, 0, none⟩) 8 8)] :: cl cb19_ 244 [(Value.int .u32 (wsm prev (List.take k L)))] :: cl ub20_ 5 [c0, c1, c2, c3, c4, c5, c6, c7] :: cl b10_ 100 [(Value.pointer (some ⟨en17_, 0, none⟩))] :: F) := H195_
    have S198_ := Same.trans S178_ S196_
    refine S_list (T_val (v := (Value.tuple #[(Value.int .i64 nn187_), (Value.nilIface)])) (x_move rfl) ?_)
    refine S_list (T_val (v := (Value.int .i64 nn187_)) (by kernel_rfl) ?_)
    refine S_list (T_val (v := (Value.nilIface)) (by kernel_rfl) ?_)
    refine S_list (T_val (v := (Value.int .i64 nn187_)) (x_assign rfl) ?_)
    refine S_list (T_val (v := (Value.nilIface)) (x_assign rfl) ?_)
    refine wpList_nil ?_
    refine (X_then (hK185_ _ _ ?_))
    clear hK185_
    refine C_seq (fun K199_ hK199_ => ?_)
    refine C_reg ?_
    refine S_list (T_val (v := (Value.nilIface)) (x_move rfl) ?_)
    refine S_list (T_val (v := (Value.nilIface)) (x_assign rfl) ?_)
    refine wpList_nil ?_
    refine (X_then (hK199_ _ _ ?_))
    clear hK199_
    refine C_ret ?_
    refine R_any (v := (Value.nilIface)) (run_results1 rfl rfl) ⟨_, rfl, ?_⟩
    refine S_list (T_val (v := (Value.nilIface)) (x_assign rfl) ?_)
    refine wpList_nil ?_
    refine (X_then (hK183_ _ _ ?_))
    clear hK183_
    refine C_ret ?_
    refine R_N ?_
    refine leaves_skip Try.func101 rfl rfl (by kernel_rfl) ?_
    refine ⟨(Value.nilIface), run_results1 rfl rfl, ⟨_, rfl, ?_⟩⟩
    refine S_list (T_val (v := (Value.nilIface)) (x_assign rfl) ?_)
    refine wpList_nil ?_
    refine (X_then (hK179_ _ _ ?_))
    clear hK179_
    refine C_ret ?_
    refine R_any (v := (Value.nilIface)) (run_results1 rfl rfl) ⟨_, rfl, ?_⟩
    refine wpList_nil ?_
    refine (X_then (hK172_ _ _ ?_))
    clear hK172_
    refine C_seq (fun K200_ hK200_ => ?_)
    refine C_reg ?_
    refine S_list (T_val (v := (Value.pointer (some ⟨b3_, 0, none⟩))) (x_move rfl) ?_)
    refine S_list (T_val (v := (Value.pointer (some ⟨b3_, 0, none⟩))) (by kernel_rfl) ?_)
    refine S_list (T_val (v := (Value.pointer (some ⟨b3_, 0, none⟩))) (by kernel_rfl) ?_)
    refine S_list (T_val (v := V190_) (x_load1 rfl Try.underlying43 rfl ((Holds.rd H195_ 3 rfl) 0 V190_ rfl)) ?_)
    refine S_list (T_val (v := (Value.int .i64 0)) (x_move rfl) ?_)
    refine S_list (T_val (v := V190_) (x_assign rfl) ?_)
    refine S_list (T_val (v := (Value.int .i64 0)) (x_assign rfl) ?_)
    refine wpList_nil ?_
    refine (X_then (hK200_ _ _ ?_))
    clear hK200_
    refine C_ret ?_
    refine R_any (v := (Value.tuple #[V190_, (Value.int .i64 0)])) (run_results2 rfl rfl rfl) ?_
    have H201_ : Holds w194_ (ro R :: sl 5 1 V190_ (List.length (os ++ pd)) (bytesV (os ++ pd)) :: F) := (Holds.erase (Holds.erase (Holds.erase (Holds.erase (Holds.erase (Holds.erase (Holds.erase (Holds.erase (Holds.erase (Holds.bring (Holds.bring H195_ 4 rfl) 1 rfl) 2) 2) 2) 2) 2) 2) 2) 2) 2)
    exact ⟨_, [sl 5 1 V190_ (List.length (os ++ pd)) (bytesV (os ++ pd))], rfl, ⟨V190_, (os ++ pd), rfl, rfl, (by rw [hos, List.take_of_length_le (by omega)])⟩, S198_, H201_⟩
end Go.Proofs.Ytgeggiebefonhaa
